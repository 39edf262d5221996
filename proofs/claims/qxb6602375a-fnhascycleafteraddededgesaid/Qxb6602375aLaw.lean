/-
  THE WALK OF FnHasCycleAfterAddedEdge (5).
-/
import Derived.Test.Qxb6602375aCopy
import Derived.BigRegion
namespace Go.Proofs.Qxb6602375a
open Go.RowKit

/-- THE LAW ITSELF: within the graph. -/
theorem law_bool {n : Nat} {G : Nat → List Nat} {a b : Nat} (hb : b < n) (hG : ∀ r v, v ∈ G r → v < n) {b1 b2 b3 : Bool} (h1 : IsCyc n G b1) (h2 : IsCyc n (Gr.added G a b) b2) (h3 : b1 = false → Reach G b a b3) :
    (b2 == (if b1 = true then true else b3)) = true := by
  unfold IsCyc at h1 h2
  unfold Reach at h3
  rw [Gr.cyc_added hb hG] at h2
  cases b1
  · have h3' := h3 rfl
    have hn : ¬ Gr.Cyc n G := fun h => by cases h1.2 h
    simp only [hn, false_or] at h2
    rw [← h3'] at h2
    cases b2 <;> cases b3 <;> simp_all
  · have hy : Gr.Cyc n G := h1.1 rfl
    have : b2 = true := h2.2 (Or.inl hy)
    simp [this]

set_option maxHeartbeats 4000000 in
set_option maxRecDepth 1000000 in
theorem law_any (ga : Option Addr) (gb go n Gc : Nat) (A : Nat → Option Addr) (L C RB RO : Nat → Nat) (Z : Nat → Nat → Int) (x y : Int) (w : World) (hg : GV w ga gb go n A L C RB RO Z) :
    Calls Try.prog 5 #[.slice ga n Gc, .int .i64 x, .int .i64 y] w fun e w' => e = .returned (.bool true) ∧ Below w.heap.size w w' := by
  obtain ⟨i0, hi, hz0, hz1, hz2⟩ := info_parts Try.info3
  have hnb := hg.nb
  have HV : Hid (GV w ga gb go n A L C RB RO Z) := hg
  clear hg
  go_enter Try.func5, Try.ntmps5
  go_wp2_with fail
  refine (bytes_any ga gb go n Gc A L C RB RO Z x y _ HV.out).mono ?_
  rintro e w1 ⟨⟨b0, rfl, _⟩, hw⟩
  subst w1
  cases b0
  · go_wp2_with fail
    go_ret
    exact ⟨rfl, Below.refl _ _⟩
  go_wp2_with fail
  refine (big_any ga gb go n Gc A L C RB RO Z _ HV.out).mono ?_
  rintro e w1 ⟨⟨b0, rfl, hsm⟩, hw⟩
  subst w1
  cases b0
  rotate_left
  · go_wp2_with fail
    go_ret
    exact ⟨rfl, Below.refl _ _⟩
  have HS : Hid (24 * n + 8 * Gr.sumTo n L ≤ 1048576) := hsm rfl
  clear hsm
  go_wp2_with fail
  refine (heads_any ga gb go n Gc A L C RB RO Z _ HV.out).mono ?_
  rintro e w1 ⟨⟨b0, rfl, hin⟩, hw⟩
  subst w1
  cases b0
  · go_wp2_with fail
    go_ret
    exact ⟨rfl, Below.refl _ _⟩
  have HI0 : Hid (InTo n L Z n) := hin rfl
  clear hin
  by_cases hx0 : x < 0
  · have hd : decide (x < 0) = true := by simpa using hx0
    go_wp2_with fail
    go_ret
    exact ⟨rfl, Below.refl _ _⟩
  have hd1 : decide (x < 0) = false := by simpa using hx0
  by_cases hx1 : (n : Int) ≤ x
  · go_wp2_with fail
    go_ret
    exact ⟨rfl, Below.refl _ _⟩
  have hd2 : decide ((n : Int) ≤ x) = false := by simpa using hx1
  by_cases hy0 : y < 0
  · go_wp2_with fail
    go_ret
    exact ⟨rfl, Below.refl _ _⟩
  have hd3 : decide (y < 0) = false := by simpa using hy0
  by_cases hy1 : (n : Int) ≤ y
  · go_wp2_with fail
    go_ret
    exact ⟨rfl, Below.refl _ _⟩
  obtain ⟨a, rfl⟩ := Int.eq_ofNat_of_zero_le (Int.not_lt.1 hx0)
  obtain ⟨b, rfl⟩ := Int.eq_ofNat_of_zero_le (Int.not_lt.1 hy0)
  have ha : a < n := by omega
  have hb : b < n := by omega
  have haz : (a : Int) < (n : Int) := by omega
  have hbz : (b : Int) < (n : Int) := by omega
  clear hx0 hd1 hx1 hd2 hy0 hd3 hy1
  have hd1 : decide ((a : Int) < 0) = false := decide_eq_false (by omega)
  have hd3 : decide ((b : Int) < 0) = false := decide_eq_false (by omega)
  obtain ⟨hGN, htot⟩ := gn_of HV.out HS.out HI0.out
  have hn20 : n ≤ 1048576 := by have := HS.out; omega
  generalize nodes n L Z = G at *
  have HG : Hid (GN w ga gb go n G) := hGN
  have HT : Hid (Gr.sumTo n (fun u => (G u).length) ≤ 1048576) := htot
  clear hGN htot HS HI0 HV
  go_wp2_with fail
  refine (door_any ga gb go n Gc G _ HG.out).mono ?_
  rintro e w1 ⟨⟨b1, rfl, hb1⟩, hbl1⟩
  have HC1 : Hid (IsCyc n G b1) := hb1
  have HB1 : Hid (Below w.heap.size w w1) := hbl1
  have HG1 : Hid (GN w1 ga gb go n G) := HG.out.below hbl1
  clear hb1 hbl1
  have hmk22 := run_make_row' (P := Try.prog) 22 24 (.slice none 0 0) 24 Try.underlying22 Try.info24 rfl .i64 .i64 n (by omega) (by omega)
  go_wp2_with fail
  clear hmk22
  go_loopg [9] n (fun g i wr => ∃ r : Nat, r ≤ n ∧ g = n - r ∧ i = .int .i64 r ∧ Cp w1 wr n G r)
  case atStart => exact ⟨0, Nat.zero_le _, rfl, rfl, cp_start w1 n G⟩
  case round =>
    obtain ⟨r, hr, rfl, rfl, hO⟩ := hrel
    by_cases hlt : r < n
    · have hltz : (r : Int) < (n : Int) := by omega
      obtain rfl := HG1.out.hga (by omega)
      have hlen : (G r).length ≤ 1048576 := Nat.le_trans (Gr.sumTo_le_at (f := fun u => (G u).length) hlt) HT.out
      obtain ⟨ao, rc, rb, ro, hrow, hcell⟩ := HG1.out.row r hlt
      have hgb : gb < w1.heap.size := World.block_lt_of_cell? _ _ hrow
      have g0 : wr.cell? ⟨gb, go + r, none⟩ = some (.slice ao (G r).length rc) := by rw [hO.below.cell (p := ⟨gb, go + r, none⟩) hgb]; exact hrow
      have HW : Hid (w1.cell? ⟨gb, go + r, none⟩ = some (.slice ao (G r).length rc)) := hrow
      have HR : Hid (∀ c y, (G r)[c]? = some y → ao = some ⟨rb, ro, none⟩ ∧ w1.cell? ⟨rb, ro + c, none⟩ = some (.int .i64 (y : Nat))) := hcell
      have HCi : Hid (Ci w1 (wr.alloc (.cells (madeCells #[.int .i64 0] ((G r).length + 1)) 3)).drew n G r 0) := ci_start hO
      have hsz := hO.size
      clear hO hrow hcell
      generalize hrw : (G r).length = ln at *
      have HL : Hid ((G r).length = ln) := hrw
      clear hrw
      have hmk := fun W : World => run_make (P := Try.prog) W 24 3 i0 (.int .i64 0) Try.underlying24 hi hz0 .i64 .i64 (ln : Int) ((ln : Int) + 1) (by omega) (by omega) (by rw [hz2]; omega) (by omega)
      go_wp2_with fail
      go_region
      clear hmk g0 hsz
      go_wp2_with fail
      go_loopg [11] ln (fun g i wi => ∃ c : Nat, c ≤ ln ∧ g = ln - c ∧ i = .int .i64 c ∧ Ci w1 wi n G r c)
      case atStart => exact ⟨0, Nat.zero_le _, rfl, rfl, HCi.out⟩
      case round =>
        clear HCi
        obtain ⟨c, hc, rfl, rfl, hI⟩ := hrel
        have g0 : wr.cell? ⟨gb, go + r, none⟩ = some (.slice ao ln rc) := by rw [hI.below.cell (p := ⟨gb, go + r, none⟩) hgb]; exact HW.out
        by_cases hcl : c < ln
        · have hclz : (c : Int) < (ln : Int) := by omega
          obtain ⟨z, hz⟩ : ∃ z, (G r)[c]? = some z := ⟨(G r)[c]'(by rw [HL.out]; exact hcl), by simp⟩
          obtain ⟨rfl, hcc⟩ := HR.out c z hz
          have c1 : wr.cell? ⟨rb, ro + c, none⟩ = some (.int .i64 (z : Nat)) := by rw [hI.below.cell (p := ⟨rb, ro + c, none⟩) (World.block_lt_of_cell? _ _ hcc)]; exact hcc
          have c2 : wr.cell? ⟨w1.heap.size + 1 + r, c, none⟩ = some (.int .i64 0) := by rw [hI.cur.cell (by rw [HL.out]; omega)]; simp [cpv]
          have c3 : wr.frozen? ⟨w1.heap.size + 1 + r, c, none⟩ = false := hI.cur.frozen c
          have HN : Hid (Ci w1 (wr.setCell ⟨w1.heap.size + 1 + r, c, none⟩ (.int .i64 (z : Int))) n G r (c + 1)) := ci_step hI hz
          clear hI hcc hz
          go_wp2_with fail
          go_roundg (ln - (c + 1))
          case measure => go_light; omega
          case rel => go_light; exact ⟨c + 1, by omega, rfl, by go_num, HN.out⟩
        · have hclz : ¬ (c : Int) < (ln : Int) := by omega
          obtain rfl : ln = c := by omega
          have c1 : wr.cell? ⟨w1.heap.size, r, none⟩ = some (.slice none 0 0) := by rw [hI.top.cell hlt]; simp [topv]
          have c2 : wr.frozen? ⟨w1.heap.size, r, none⟩ = false := hI.top.frozen r
          have HN : Hid (Cp w1 (wr.setCell ⟨w1.heap.size, r, none⟩ (.slice (some ⟨w1.heap.size + 1 + r, 0, none⟩) ln (ln + 1))) n G (r + 1)) := by
            have hI' : Ci w1 wr n G r (G r).length := by rw [HL.out]; exact hI
            have := ci_done hI'
            rw [HL.out] at this
            exact this
          clear hI
          go_wp2_with fail
          go_roundg (n - (r + 1))
          case measure => go_light; omega
          case rel => go_light; exact ⟨r + 1, by omega, rfl, by go_num, HN.out⟩
    · have hltz : ¬ (r : Int) < (n : Int) := by omega
      obtain rfl : n = r := by omega
      have hla : (G a).length ≤ 1048576 := Nat.le_trans (Gr.sumTo_le_at (f := fun u => (G u).length) ha) HT.out
      have c1 : wr.cell? ⟨w1.heap.size, a, none⟩ = some (.slice (some ⟨w1.heap.size + 1 + a, 0, none⟩) (G a).length ((G a).length + 1)) := by rw [hO.top.cell ha]; simp [topv, ha]
      have c2 : wr.frozen? ⟨w1.heap.size, a, none⟩ = false := hO.top.frozen a
      have HO : Hid (Cp w1 wr n G n) := hO
      have HW : Hid (wr.ownsRow w1.heap.size 3 1 (.slice (some ⟨w1.heap.size + 1 + a, 0, none⟩) (G a).length ((G a).length + 1)) (G a).length (natCells (G a))) := owns_of_row (by omega) (by unfold maxLen; omega) (hO.done a ha)
      have HL : Hid (∀ r v, v ∈ G r → v < n) := HG.out.heads
      clear hO
      go_wp2_with (at_builtin; go_must (refine wpList_append_fits _ rfl _ _ 24 rfl w1.heap.size 3 i0 1 Try.underlying24 hi hz1 (w1.heap.size + 1 + a) (G a).length ((G a).length + 1) (natCells (G a)) rfl (HW.out.alloc _) ⟨wr.heap.size, 0, none⟩ 1 1 [.int .i64 b] rfl rfl (cell_one_new _ _ _) (oneCell_int _) (by omega) ?_); intro w2 hown2 hgrow2; obtain ⟨d1, d2⟩ := cp_cells HO.out ha hgrow2)
      have hq := cp_added HO.out ha hb HL.out hn20 HT.out hown2 hgrow2
      have HQ : Hid (GN (w2.setCell ⟨w1.heap.size, a, none⟩ (.slice (some ⟨w1.heap.size + 1 + a, 0, none⟩) ((G a).length + 1) ((G a).length + 1))) (some ⟨w1.heap.size, 0, none⟩) w1.heap.size 0 n (Gr.added G a b) ∧
        Below w1.heap.size w1 (w2.setCell ⟨w1.heap.size, a, none⟩ (.slice (some ⟨w1.heap.size + 1 + a, 0, none⟩) ((G a).length + 1) ((G a).length + 1)))) := hq
      clear hq hown2 hgrow2 c1 c2
      refine (door_any (some ⟨w1.heap.size, 0, none⟩) w1.heap.size 0 n n (Gr.added G a b) _ HQ.out.1).mono ?_
      rintro e w3 ⟨⟨b2, rfl, hb2⟩, hbl3⟩
      have HC2 : Hid (IsCyc n (Gr.added G a b) b2) := hb2
      have HB3 : Hid (Below w.heap.size w w3) := by
        have h1 := HB1.out
        have h2 := HQ.out.2
        have hs := h1.size
        have hs2 := h2.size
        exact (h1.trans (h2.mono hs)).trans (hbl3.mono (by omega))
      have HG3 : Hid (GN w3 ga gb go n G) := HG.out.below HB3.out
      clear hb2 hbl3 d1 d2
      cases b1
      · go_wp2_with fail
        refine (reach_any ga gb go n Gc G b a _ HG3.out hb ha).mono ?_
        rintro e w4 ⟨⟨b3, rfl, hb3⟩, hbl4⟩
        have hfin : (b2 == b3) = true := by have := law_bool (a := a) hb HL.out HC1.out HC2.out (fun _ => hb3); simpa using this
        have HF : Hid ((b2 == b3) = true ∧ Below w.heap.size w w4) := ⟨hfin, HB3.out.trans (hbl4.mono HB3.out.size)⟩
        clear hfin hb3 hbl4
        go_wp2_with fail
        go_ret
        exact ⟨by rw [HF.out.1]; rfl, HF.out.2⟩
      · have hfin : (b2 == true) = true := by have := law_bool (a := a) (b3 := true) hb HL.out HC1.out HC2.out (fun h => by cases h); simpa using this
        have hb2 : b2 = true := by simpa using hfin
        subst hb2
        go_wp2_with fail
        go_ret
        exact ⟨rfl, HB3.out⟩

#print axioms law_any
end Go.Proofs.Qxb6602375a
