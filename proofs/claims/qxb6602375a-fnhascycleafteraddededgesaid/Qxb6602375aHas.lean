/-
  THE WALK OF hasCycle (28) AND ITS DOOR ZZGraphHasCycle (11).
-/
import Derived.Test.Qxb6602375aWalkA
import Derived.Test.Qxb6602375aParts
import Derived.Deep.DeepMust
namespace Go.Proofs.Qxb6602375a
open Go.RowKit

def IsCyc (n : Nat) (G : Nat → List Nat) : Bool → Prop := fun b => b = true ↔ Gr.Cyc n G

set_option maxHeartbeats 4000000 in
set_option maxRecDepth 1000000 in
theorem has_any (ga : Option Addr) (gb go n Gc : Nat) (G : Nat → List Nat) (w : World) (hg : GN w ga gb go n G) :
    Calls Try.prog 28 #[.slice ga n Gc] w fun e w' => BE (IsCyc n G) e ∧ Below w.heap.size w w' := by
  obtain ⟨i0, hi, hz0, hz1, hz2⟩ := info_parts Try.info3
  have hnb := hg.nb
  have htot := hg.tot
  have hmk := run_make_row' (P := Try.prog) 24 3 (.int .i64 0) 8 Try.underlying24 Try.info3 rfl .i64 .i64 n (by omega) (by omega)
  go_enter Try.func28, Try.ntmps28
  go_wp2
  clear hmk
  go_loopg [20] n (fun g i wr => ∃ a : Nat, a ≤ n ∧ g = n - a ∧ i = .int .i64 a ∧ HI w wr n (incAt G a 0))
  case atStart => exact ⟨0, Nat.zero_le _, rfl, rfl, hi_start w G n⟩
  case round =>
    obtain ⟨a, ha, rfl, rfl, hI⟩ := hrel
    by_cases hlt : a < n
    · obtain rfl := hg.hga (by omega)
      have hlen := hg.len a hlt
      obtain ⟨ao, cap, rb, ro, hrow, hcell⟩ := (hg.row a hlt)
      have hltz : (a : Int) < (n : Int) := by omega
      have hgb : gb < w.heap.size := World.block_lt_of_cell? _ _ hrow
      have g0 : wr.cell? ⟨gb, go + a, none⟩ = some (.slice ao (G a).length cap) := by rw [hI.below.cell (p := ⟨gb, go + a, none⟩) hgb]; exact hrow
      have HI0 : Hid (HI w wr n (incAt G a 0)) := hI
      have HR : Hid (∀ c y, (G a)[c]? = some y → ao = some ⟨rb, ro, none⟩ ∧ w.cell? ⟨rb, ro + c, none⟩ = some (.int .i64 (y : Nat))) := hcell
      have HL : Hid (∀ v, v ∈ G a → v < n) := hg.heads a
      clear hI hcell hrow hg
      generalize hrw : G a = row at *
      have HG : Hid (G a = row) := hrw
      clear hrw
      go_wp2
      go_loopg [26] row.length (fun g i wi => ∃ e : Nat, e ≤ row.length ∧ g = row.length - e ∧ i = .int .i64 e ∧ HI w wi n (incAt G a e))
      case atStart => exact ⟨0, Nat.zero_le _, rfl, rfl, HI0.out⟩
      case round =>
        obtain ⟨e, he, rfl, rfl, hI⟩ := hrel
        clear HI0 g0
        by_cases hel : e < row.length
        · have helz : (e : Int) < (row.length : Int) := by omega
          obtain ⟨y, hy⟩ : ∃ y, row[e]? = some y := ⟨row[e], by simp [hel]⟩
          obtain ⟨rfl, hc⟩ := HR.out e y hy
          have hyn : y < n := HL.out y (List.mem_of_getElem? hy)
          have hynz : (y : Int) < (n : Int) := by omega
          have c1 : wr.cell? ⟨rb, ro + e, none⟩ = some (.int .i64 (y : Nat)) := by rw [hI.below.cell (p := ⟨rb, ro + e, none⟩) (World.block_lt_of_cell? _ _ hc)]; exact hc
          have c2 : wr.cell? ⟨w.heap.size, y, none⟩ = some (.int .i64 ((incAt G a e y : Nat) : Int)) := hI.row.cell hyn
          have c3 : wr.frozen? ⟨w.heap.size, y, none⟩ = false := hI.row.frozen y
          have hb : incAt G a e y ≤ 1099511627776 := Nat.le_trans (inc_le hlt y) htot
          have HN : Hid (HI w (wr.setCell ⟨w.heap.size, y, none⟩ (.int .i64 ((incAt G a e y : Nat) + 1 : Int))) n (incAt G a (e + 1))) :=
            hi_store hI (by rw [inc_step (by rw [HG.out]; exact hy), if_pos rfl]; omega) (fun v _ hv => by rw [inc_step (by rw [HG.out]; exact hy), if_neg hv])
          clear hI hc hy
          generalize incAt G a e y = q at *
          go_wp2
          go_roundg (row.length - (e + 1))
          case measure => go_light; omega
          case rel => go_light; exact ⟨e + 1, by omega, rfl, by go_num, HN.out⟩
        · have helz : ¬ (e : Int) < (row.length : Int) := by omega
          have HN : Hid (HI w wr n (incAt G (a + 1) 0)) := hI.congr (fun v _ => by rw [show e = (G a).length by rw [HG.out]; omega]; exact inc_next G a v)
          clear hI
          go_wp2
          go_roundg (n - (a + 1))
          case measure => go_light; omega
          case rel => go_light; exact ⟨a + 1, by omega, rfl, by go_num, HN.out⟩
    · have hltz : ¬ (a : Int) < (n : Int) := by omega
      obtain rfl : n = a := by omega
      obtain ⟨inc, hI, HC, HB⟩ : ∃ inc : Nat → Nat, HI w wr n inc ∧ Hid (∀ v, v < n → inc v = Gr.sumTo n (fun u => (G u).count v)) ∧ Hid (∀ v, inc v ≤ 1099511627776) :=
        ⟨incAt G n 0, hI, fun v _ => inc_end G n v, fun v => Nat.le_trans (inc_end_le G n v) htot⟩
      have HG : Hid (GN w ga gb go n G) := hg
      have HI0 : Hid (HI w wr n inc) := hI
      clear hI hg htot
      go_wp2
      -- THE THIRD LOOP: the nodes without an incoming edge
      go_loopg [8, 40] n (fun g v i wi => ∃ k : Nat, k ≤ n ∧ g = n - k ∧ i = .int .i64 k ∧ ∃ (ao : Option Addr) (m cap : Nat), v = .slice ao m cap ∧ Own wi (w.heap.size + 1) ao m cap (zeros inc k) ∧ HI w wi n inc)
      case atStart => exact ⟨0, Nat.zero_le _, rfl, rfl, none, 0, 0, rfl, own_nil _ _, HI0.out⟩
      case round =>
        obtain ⟨k, hk, rfl, rfl, ao, m, cap, rfl, hown, hI⟩ := hrel
        clear HI0
        have hm : m ≤ k := by have := hown.1; have := zeros_le inc k; omega
        by_cases hkl : k < n
        · have hklz : (k : Int) < (n : Int) := by omega
          have c2 : wr.cell? ⟨w.heap.size, k, none⟩ = some (.int .i64 ((inc k : Nat) : Int)) := hI.row.cell hkl
          by_cases h0 : inc k = 0
          · have hz : zeros inc (k + 1) = zeros inc k ++ [k] := zeros_yes h0
            have HZ : Hid (zeros inc (k + 1) = zeros inc k ++ [k]) := hz
            rw [h0] at c2
            have hsz := hI.size
            have HI1 : Hid (HI w wr n inc) := hI
            have HO : Hid (Own wr (w.heap.size + 1) ao m cap (zeros inc k)) := hown
            clear hz h0 hI hown
            go_wp2_with (first | (at_builtin; refine wpList_append_lies _ rfl _ _ 24 rfl (w.heap.size + 1) 3 i0 (.int .i64 0) 1 8 Try.underlying24 hi hz0 hz1 hz2 rfl (by decide) _ m _ rfl (HO.out.2.alloc _) ⟨wr.heap.size, 0, none⟩ 1 1 [.int .i64 k] rfl rfl (cell_one_new _ _ _) (oneCell_int _) (by decide) (by unfold maxLen; omega) (by omega) (by simp; omega) (wr.heap.size + 1) (by simp) ?_; intro g cap1 w1 hown1 hgrow hat hlt))
            have HN : Hid (Own w1 (w.heap.size + 1) (some ⟨g, 0, none⟩) (m + 1) cap1 (zeros inc (k + 1)) ∧ HI w w1 n inc) := ⟨by rw [HZ.out]; exact own_append HO.out hown1, hi_grow HI1.out _ (own_ge HO.out) hgrow⟩
            clear hown1 hgrow hat hlt c2
            go_wp2
            go_roundg (n - (k + 1))
            case measure => go_light; omega
            case rel => go_light; exact ⟨k + 1, by omega, rfl, by go_num, _, _, _, rfl, HN.out.1, HN.out.2⟩
          · have HZ : Hid (zeros inc (k + 1) = zeros inc k) := zeros_no h0
            have h0z : (((inc k : Nat) : Int) == 0) = false := by simp; omega
            have HO : Hid (Own wr (w.heap.size + 1) ao m cap (zeros inc (k + 1)) ∧ HI w wr n inc) := ⟨by rw [HZ.out]; exact hown, hI⟩
            clear hI hown
            generalize inc k = q at *
            go_wp2
            go_roundg (n - (k + 1))
            case measure => go_light; omega
            case rel => go_light; exact ⟨k + 1, by omega, rfl, by go_num, _, _, _, rfl, HO.out.1, HO.out.2⟩
        · have hklz : ¬ (k : Int) < (n : Int) := by omega
          obtain rfl : n = k := by omega
          have HT : Hid (Taking w wr n G [] (zeros inc n) [] ao m cap inc) := ⟨hown, hI, Gr.kahn_start HC.out, HB.out⟩
          clear hown hI HC HB
          go_wp2
          -- THE FOURTH LOOP: nodes are taken away
          go_loopg [8, 11] n (fun g v t wi => ∃ (T F : List Nat) (inc : Nat → Nat) (ao : Option Addr) (m cap tn : Nat), tn = T.length ∧ tn ≤ n ∧ g = n - tn ∧ v = .slice ao m cap ∧ t = .int .i64 tn ∧ Taking w wi n G T F [] ao m cap inc)
          case atStart => exact ⟨[], _, inc, _, _, _, 0, rfl, Nat.zero_le _, rfl, rfl, rfl, HT.out⟩
          case round =>
            clear HT hm
            obtain ⟨T, F, inc1, ao1, m1, cap1, tn, htn, htnn, rfl, rfl, rfl, hT⟩ := hrel
            have hroom := Gr.kahn_room hT.kahn
            rcases List.eq_nil_or_concat F with rfl | ⟨F', x, hF⟩
            · -- none is free any more
              obtain rfl : m1 = 0 := hT.own.1
              have HN : Hid (IsCyc n G (decide (tn < n)) ∧ Below w.heap.size w wr) := ⟨by unfold IsCyc; rw [← Gr.kahn_done hT.kahn, ← htn]; simp, hT.hi.below⟩
              have HTn : Hid (tn = T.length) := htn
              clear hT htn
              go_wp2
              go_ret
              exact ⟨BE.mk _ HN.out.1, HN.out.2⟩
            · rw [List.concat_eq_append] at hF
              subst hF
              obtain ⟨m', rfl⟩ : ∃ m', m1 = m' + 1 := ⟨F'.length, by have := hT.own.1; simpa using this⟩
              have hmF : m' = F'.length := by have := hT.own.1; simpa using this
              obtain ⟨g, rfl, hbg, hmc⟩ := own_form hT.own
              have c1 : wr.cell? ⟨g, m', none⟩ = some (.int .i64 (x : Int)) := own_cell hT.own (by rw [hmF]; simp)
              have hxn : x < n := hT.kahn.lt x (by simp)
              have hxnz : (x : Int) < (n : Int) := by omega
              have hroom' : tn + (m' + 1) ≤ n := by have := hroom; simp at this; omega
              obtain rfl := HG.out.hga (by omega)
              have hlen := HG.out.len x hxn
              obtain ⟨ao2, rc, rb, ro, hrow, hcell⟩ := HG.out.row x hxn
              have hgb : gb < w.heap.size := World.block_lt_of_cell? _ _ hrow
              have g0 : wr.cell? ⟨gb, go + x, none⟩ = some (.slice ao2 (G x).length rc) := by rw [hT.hi.below.cell (p := ⟨gb, go + x, none⟩) hgb]; exact hrow
              have HT : Hid (Taking w wr n G (T ++ [x]) F' (G x) (some ⟨g, 0, none⟩) m' cap1 inc1) := taking_pop hT
              have HR : Hid (∀ c y, (G x)[c]? = some y → ao2 = some ⟨rb, ro, none⟩ ∧ w.cell? ⟨rb, ro + c, none⟩ = some (.int .i64 (y : Nat))) := hcell
              have HL : Hid (∀ v, v ∈ G x → v < n) := HG.out.heads x
              have HTn : Hid (tn = T.length) := htn
              clear hcell hrow hT hroom htn hmF hbg
              generalize hrw : G x = row at *
              clear hrw
              go_wp2
              clear c1 g0
              -- THE FIFTH LOOP: the heads of the taken node
              go_loopg [8, 73] row.length (fun g v i wi => ∃ e : Nat, e ≤ row.length ∧ g = row.length - e ∧ i = .int .i64 e ∧ ∃ (F : List Nat) (inc : Nat → Nat) (ao : Option Addr) (m cap : Nat), v = .slice ao m cap ∧ Taking w wi n G (T ++ [x]) F (row.drop e) ao m cap inc)
              case atStart => exact ⟨0, Nat.zero_le _, rfl, rfl, F', inc1, _, _, _, rfl, by simpa using HT.out⟩
              case round =>
                clear HT
                obtain ⟨e, he, rfl, rfl, F2, inc2, ao3, m3, cap3, rfl, hT⟩ := hrel
                by_cases hel : e < row.length
                · have helz : (e : Int) < (row.length : Int) := by omega
                  obtain ⟨y, hy⟩ : ∃ y, row[e]? = some y := ⟨row[e], by simp [hel]⟩
                  obtain ⟨rfl, hc⟩ := HR.out e y hy
                  have hyn : y < n := HL.out y (List.mem_of_getElem? hy)
                  have hynz : (y : Int) < (n : Int) := by omega
                  have hdrop : row.drop e = y :: row.drop (e + 1) := by
                    rw [List.drop_eq_getElem_cons hel]; simp [List.getElem?_eq_getElem hel] at hy; rw [hy]
                  rw [hdrop] at hT
                  have hroom := Gr.kahn_room hT.kahn
                  have hmF := hT.own.1
                  have hm3 : m3 ≤ n := by omega
                  have c1 : wr.cell? ⟨rb, ro + e, none⟩ = some (.int .i64 (y : Nat)) := by rw [hT.hi.below.cell (p := ⟨rb, ro + e, none⟩) (World.block_lt_of_cell? _ _ hc)]; exact hc
                  have c2 : wr.cell? ⟨w.heap.size, y, none⟩ = some (.int .i64 ((inc2 y : Nat) : Int)) := hT.hi.row.cell hyn
                  have c3 : wr.frozen? ⟨w.heap.size, y, none⟩ = false := hT.hi.row.frozen y
                  have hb := hT.bd y
                  have HB : Hid (∀ v, Gr.dec inc2 y v ≤ 1099511627776) := dec_le hT.bd
                  obtain ⟨h1, hk0, hk1⟩ := Gr.kahn_head hyn hT.kahn
                  obtain ⟨hown, hhi⟩ := taking_store hyn hT
                  have HO : Hid (Own (wr.setCell ⟨w.heap.size, y, none⟩ (.int .i64 ((inc2 y : Nat) - 1 : Int))) (w.heap.size + 1) ao3 m3 cap3 F2) := hown
                  have HH : Hid (HI w (wr.setCell ⟨w.heap.size, y, none⟩ (.int .i64 ((inc2 y : Nat) - 1 : Int))) n (Gr.dec inc2 y)) := hhi
                  have hsz : w.heap.size + 1 ≤ wr.heap.size := hT.hi.size
                  by_cases h0 : inc2 y - 1 = 0
                  · have HK : Hid (Gr.Kahn n G (T ++ [x]) (F2 ++ [y]) (row.drop (e + 1)) (Gr.dec inc2 y)) := hk0 h0
                    have h0z : (((inc2 y : Nat) : Int) - 1 == 0) = true := by simp; omega
                    clear hT hk0 hk1 hown hhi hc hy hdrop hroom hmF h0
                    generalize inc2 y = q at *
                    go_wp2_with (at_builtin; go_must (refine wpList_append_lies _ rfl _ _ 24 rfl (w.heap.size + 1) 3 i0 (.int .i64 0) 1 8 Try.underlying24 hi hz0 hz1 hz2 rfl (by decide) _ m3 _ rfl (HO.out.2.alloc _) ⟨wr.heap.size, 0, none⟩ 1 1 [.int .i64 y] rfl rfl (one_new (size_set _ _ _) _ _) (oneCell_int _) (by decide) (by unfold maxLen; omega) (by omega) (by rw [size_set_alloc]; omega) (wr.heap.size + 1) (size_set_alloc _ _ _ _) ?_); intro g4 cap4 w1 hown1 hgrow hat hlt)
                    have HN : Hid (Own w1 (w.heap.size + 1) (some ⟨g4, 0, none⟩) (m3 + 1) cap4 (F2 ++ [y]) ∧ HI w w1 n (Gr.dec inc2 y)) := ⟨own_append HO.out hown1, hi_grow HH.out _ (own_ge HO.out) hgrow⟩
                    clear hown1 hgrow hat hlt
                    go_wp2
                    go_roundg (row.length - (e + 1))
                    case measure => go_light; omega
                    case rel => go_light; exact ⟨e + 1, by omega, rfl, by go_num, _, _, _, _, _, rfl, HN.out.1, HN.out.2, HK.out, HB.out⟩
                  · have HK : Hid (Gr.Kahn n G (T ++ [x]) F2 (row.drop (e + 1)) (Gr.dec inc2 y)) := hk1 h0
                    have h0z : (((inc2 y : Nat) : Int) - 1 == 0) = false := by simp; omega
                    clear hT hk0 hk1 hown hhi hc hy hdrop hroom hmF h0
                    generalize inc2 y = q at *
                    go_wp2
                    go_roundg (row.length - (e + 1))
                    case measure => go_light; omega
                    case rel => go_light; exact ⟨e + 1, by omega, rfl, by go_num, _, _, _, _, _, rfl, HO.out, HH.out, HK.out, HB.out⟩
                · have helz : ¬ (e : Int) < (row.length : Int) := by omega
                  have hdrop : row.drop e = [] := by simp; omega
                  rw [hdrop] at hT
                  have HT : Hid (Taking w wr n G (T ++ [x]) F2 [] ao3 m3 cap3 inc2) := hT
                  clear hT hdrop
                  go_wp2
                  go_roundg (n - (tn + 1))
                  case measure => go_light; omega
                  case rel => go_light; exact ⟨T ++ [x], F2, inc2, ao3, m3, cap3, tn + 1, by simp [HTn.out], by omega, rfl, rfl, by go_num, HT.out⟩

end Go.Proofs.Qxb6602375a
