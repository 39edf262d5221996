/-
  THE WALK OF reaches (15) AND OF THE DOOR ZZGraphHasCycle (11).
-/
import Derived.Test.Qxb6602375aHas
namespace Go.Proofs.Qxb6602375a
open Go.RowKit

set_option maxHeartbeats 400000 in
theorem door_any (ga : Option Addr) (gb go n Gc : Nat) (G : Nat → List Nat) (w : World) (hg : GN w ga gb go n G) :
    Calls Try.prog 11 #[.slice ga n Gc] w fun e w' => BE (IsCyc n G) e ∧ Below w.heap.size w w' := by
  go_enter Try.func11, Try.ntmps11
  go_wp2_with fail
  refine (has_any ga gb go n Gc G _ hg).mono ?_
  rintro e w1 ⟨⟨b, rfl, hb⟩, hbl⟩
  go_wp2
  go_ret
  exact ⟨BE.mk b hb, hbl⟩

/-! ### The world of reaches -/
structure RI (w wr : World) (n : Nat) (Q : List Nat) (ao : Option Addr) (m cap : Nat) : Prop where
  below : Below w.heap.size w wr
  size : w.heap.size + 1 ≤ wr.heap.size
  row : wr.rowIs w.heap.size 4 n (fun v => .bool (decide (v ∈ Q)))
  own : Own wr (w.heap.size + 1) ao m cap Q

theorem made_at (n a : Nat) (h : a < n) : (madeCells #[Value.bool false] n)[a]? = some (.bool false) := by simp [madeCells, h, Nat.mod_one]

theorem ri_start (w : World) (n a : Nat) (ha : a < n) :
    RI w ((w.alloc (.cells ((madeCells #[Value.bool false] n).setIfInBounds a (.bool true)) 4)).alloc (.cells #[.int .i64 (a : Int)] 3)) n [a] (some ⟨w.heap.size + 1, 0, none⟩) 1 1 := by
  refine ⟨((Below.refl _ _).alloc (Nat.le_refl _) _).alloc (by simp) _, by simp, ?_, rfl, ?_⟩
  · have h := World.rowIs_alloc w ((madeCells #[Value.bool false] n).setIfInBounds a (.bool true)) 4 (fun v => .bool (decide (v ∈ [a]))) (fun i hi => by
      rw [Array.getElem?_setIfInBounds]
      have hin : i < n := by rw [Array.size_setIfInBounds, size_madeCells] at hi; simpa using hi
      by_cases e : a = i
      · subst e; simp [madeCells, ha]
      · have e' : ¬ i = a := fun h => e h.symm
        rw [if_neg e, made_at n i hin]; simp [e'])
    have h2 := h.alloc (.cells #[.int .i64 (a : Int)] 3)
    rw [Array.size_setIfInBounds, size_madeCells] at h2
    simpa using h2
  · have h := World.ownsRow_lit (base := w.heap.size + 1) (e := 3) (size := 1) (w.alloc (.cells ((madeCells #[Value.bool false] n).setIfInBounds a (.bool true)) 4)) #[.int .i64 (a : Int)] 1 (by simp) (by unfold maxLen; omega) rfl
    simpa [natCells] using h

/-- 'seen[v] = true', then 'queue = append(queue, v)'. -/
theorem ri_push {w wr w1 : World} {n : Nat} {Q : List Nat} {ao : Option Addr} {m cap v g cap1 : Nat} {o : Obj} (h : RI w wr n Q ao m cap)
    (ho : w1.ownsRow (w.heap.size + 1) 3 1 (.slice (some ⟨g, 0, none⟩) (m + 1) cap1) (m + 1) (natCells Q ++ [Value.int .i64 (v : Int)]))
    (hg : ((wr.setCell ⟨w.heap.size, v, none⟩ (.bool true)).alloc o).grownBy w1 (Value.slice ao m cap).ownBlock) : RI w w1 n (Q ++ [v]) (some ⟨g, 0, none⟩) (m + 1) cap1 := by
  have hs := h.size
  have hs1 := hg.size
  rw [size_set_alloc] at hs1
  have hge := own_ge h.own
  refine ⟨((h.below.setCell (Nat.le_refl _) _).alloc (by rw [size_set]; omega) o).grown hg (by rw [size_set_alloc]; omega) (fun k hk => by have := hge k hk; omega), by omega, ?_, own_append h.own ho⟩
  have h2 : ((wr.setCell ⟨w.heap.size, v, none⟩ (.bool true)).alloc o).rowIs w.heap.size 4 n (fun x => .bool (decide (x ∈ Q ++ [v]))) := ((h.row.set v _).congr (fun x _ => by
    by_cases e : x = v
    · subst e; simp
    · simp [e])).alloc o
  exact h2.of_block (hg.block _ (by rw [size_set_alloc]; omega) (fun e => by have := hge _ e.symm; omega))

theorem own_store' {w wr : World} {n : Nat} {Q : List Nat} {ao : Option Addr} {m cap : Nat} (h : RI w wr n Q ao m cap) (v : Nat) : Own (wr.setCell ⟨w.heap.size, v, none⟩ (.bool true)) (w.heap.size + 1) ao m cap Q :=
  own_store h.own (by show w.heap.size < w.heap.size + 1; omega) _

def Reach (G : Nat → List Nat) (a b : Nat) : Bool → Prop := fun r => r = true ↔ Gr.Rch G a b

set_option maxHeartbeats 4000000 in
set_option maxRecDepth 1000000 in
theorem reach_any (ga : Option Addr) (gb go n Gc : Nat) (G : Nat → List Nat) (a b : Nat) (w : World) (hg : GN w ga gb go n G) (ha : a < n) (hb : b < n) :
    Calls Try.prog 15 #[.slice ga n Gc, .int .i64 a, .int .i64 b] w fun e w' => BE (Reach G a b) e ∧ Below w.heap.size w w' := by
  obtain ⟨i0, hi, hz0, hz1, hz2⟩ := info_parts Try.info3
  have hnb := hg.nb
  obtain rfl := hg.hga (by omega)
  have hmk := run_make_row' (P := Try.prog) 48 4 (.bool false) 1 Try.underlying48 Try.info4 rfl .i64 .i64 n (by omega) (by omega)
  have haz : (a : Int) < (n : Int) := by omega
  have hmc := made_at n a ha
  have HG : Hid (GN w (some ⟨gb, go, none⟩) gb go n G) := hg
  clear hg
  go_enter Try.func15, Try.ntmps15
  go_wp2
  clear hmk hmc
  go_loopg [8, 9] n (fun g q i wr => ∃ (k : Nat) (Q : List Nat) (ao : Option Addr) (m cap : Nat), k ≤ m ∧ m ≤ n ∧ g = n - k ∧ i = .int .i64 k ∧ q = .slice ao m cap ∧ RI w wr n Q ao m cap ∧ Gr.Bfs n G a b Q k)
  case atStart => exact ⟨0, [a], _, 1, 1, by omega, by omega, rfl, rfl, rfl, ri_start w n a ha, Gr.bfs_start ha⟩
  case round =>
    obtain ⟨k, Q, ao, m, cap, hkm, hmn, rfl, rfl, rfl, hR, hB⟩ := hrel
    by_cases hlt : k < m
    · have hltz : (k : Int) < (m : Int) := by omega
      obtain ⟨u, hu⟩ : ∃ u, Q[k]? = some u := ⟨Q[k]'(by have := hR.own.1; omega), by simp⟩
      have hun : u < n := hB.lt u (List.mem_of_getElem? hu)
      have hunz : (u : Int) < (n : Int) := by omega
      obtain ⟨m', rfl⟩ : ∃ m', m = m' + 1 := ⟨m - 1, by omega⟩
      clear hltz
      have hltz : (k : Int) < (m' : Int) + 1 := by omega
      obtain ⟨g, rfl, _, _⟩ := own_form hR.own
      have c1 : wr.cell? ⟨g, k, none⟩ = some (.int .i64 (u : Int)) := own_cell hR.own hu
      by_cases hub : u = b
      · subst hub
        have HN : Hid (Reach G a u true ∧ Below w.heap.size w wr) := ⟨by unfold Reach; simp; exact hB.far u (List.mem_of_getElem? hu), hR.below⟩
        clear hR hB hu
        go_wp2
        go_ret
        exact ⟨BE.mk _ HN.out.1, HN.out.2⟩
      · have hubz : ((u : Int) == (b : Int)) = false := by simp; omega
        have hlen := HG.out.len u hun
        obtain ⟨ao2, rc, rb, ro, hrow, hcell⟩ := HG.out.row u hun
        have hgb : gb < w.heap.size := World.block_lt_of_cell? _ _ hrow
        have HR : Hid (∀ c y, (G u)[c]? = some y → ao2 = some ⟨rb, ro, none⟩ ∧ w.cell? ⟨rb, ro + c, none⟩ = some (.int .i64 (y : Nat))) := hcell
        have HW : Hid (w.cell? ⟨gb, go + u, none⟩ = some (.slice ao2 (G u).length rc)) := hrow
        have HL : Hid (∀ v, v ∈ G u → v < n) := HG.out.heads u
        have HB : Hid (Gr.Bfs n G a b Q k ∧ RI w wr n Q (some ⟨g, 0, none⟩) (m' + 1) cap ∧ Q[k]? = some u) := ⟨hB, hR, hu⟩
        have HU : Hid (u ≠ b) := hub
        clear hcell hrow hR hB hu hub
        generalize hrw : G u = row at *
        have HGu : Hid (G u = row) := hrw
        clear hrw
        go_wp2
        clear c1
        go_loopg [8, 11] row.length (fun g q i wi => ∃ (e : Nat) (Q : List Nat) (ao : Option Addr) (m cap : Nat), e ≤ row.length ∧ k < m ∧ m ≤ n ∧ g = row.length - e ∧ i = .int .i64 e ∧ q = .slice ao m cap ∧ RI w wi n Q ao m cap ∧ Gr.Bfs n G a b Q k ∧ Q[k]? = some u ∧ ∀ c y, c < e → row[c]? = some y → y ∈ Q)
        case atStart => exact ⟨0, Q, _, _, _, Nat.zero_le _, by omega, by omega, rfl, rfl, rfl, HB.out.2.1, HB.out.1, HB.out.2.2, fun c y hc => absurd hc (Nat.not_lt_zero _)⟩
        case round =>
          clear HB
          obtain ⟨e, Q2, ao3, m3, cap3, he, hkm3, hmn3, rfl, rfl, rfl, hR, hB, hu, hall⟩ := hrel
          have g0 : wr.cell? ⟨gb, go + u, none⟩ = some (.slice ao2 row.length rc) := by rw [hR.below.cell (p := ⟨gb, go + u, none⟩) hgb]; exact HW.out
          by_cases hel : e < row.length
          · have helz : (e : Int) < (row.length : Int) := by omega
            obtain ⟨y, hy⟩ : ∃ y, row[e]? = some y := ⟨row[e], by simp [hel]⟩
            obtain ⟨rfl, hc⟩ := HR.out e y hy
            have hyn : y < n := HL.out y (List.mem_of_getElem? hy)
            have hynz : (y : Int) < (n : Int) := by omega
            have c1 : wr.cell? ⟨rb, ro + e, none⟩ = some (.int .i64 (y : Nat)) := by rw [hR.below.cell (p := ⟨rb, ro + e, none⟩) (World.block_lt_of_cell? _ _ hc)]; exact hc
            have c2 : wr.cell? ⟨w.heap.size, y, none⟩ = some (.bool (decide (y ∈ Q2))) := hR.row.cell hyn
            have c3 : wr.frozen? ⟨w.heap.size, y, none⟩ = false := hR.row.frozen y
            have hsz := hR.size
            by_cases hin : y ∈ Q2
            · have c2' : wr.cell? ⟨w.heap.size, y, none⟩ = some (.bool true) := by rw [c2]; simp [hin]
              have HN : Hid (RI w wr n Q2 ao3 m3 cap3 ∧ Gr.Bfs n G a b Q2 k ∧ Q2[k]? = some u ∧ ∀ c y, c < e + 1 → row[c]? = some y → y ∈ Q2) := ⟨hR, hB, hu, fun c z hc hz => by
                by_cases ec : c = e
                · subst ec; rw [hy] at hz; cases hz; exact hin
                · exact hall c z (by omega) hz⟩
              clear hR hB hu hall c2 hc hy hin
              go_wp2
              go_roundg (row.length - (e + 1))
              case measure => go_light; omega
              case rel => go_light; exact ⟨e + 1, Q2, ao3, m3, cap3, by omega, hkm3, hmn3, rfl, by go_num, rfl, HN.out⟩
            · have c2' : wr.cell? ⟨w.heap.size, y, none⟩ = some (.bool false) := by rw [c2]; simp [hin]
              have hmem : y ∈ G u := by rw [HGu.out]; exact List.mem_of_getElem? hy
              have hB' := Gr.bfs_push hB (by have := hR.own.1; omega) (List.mem_of_getElem? hu) hyn hmem hin
              have hroom := Gr.bfs_room hB'
              have hm3 : m3 + 1 ≤ n := by have := hR.own.1; simp at hroom; omega
              have HO : Hid (Own (wr.setCell ⟨w.heap.size, y, none⟩ (.bool true)) (w.heap.size + 1) ao3 m3 cap3 Q2) := own_store' hR y
              have HN : Hid (RI w wr n Q2 ao3 m3 cap3 ∧ Gr.Bfs n G a b (Q2 ++ [y]) k ∧ (Q2 ++ [y])[k]? = some u ∧ ∀ c z, c < e + 1 → row[c]? = some z → z ∈ Q2 ++ [y]) := ⟨hR, hB', by rw [List.getElem?_append_left (by have := hR.own.1; omega)]; exact hu, fun c z hc hz => by
                by_cases ec : c = e
                · subst ec; rw [hy] at hz; cases hz; simp
                · exact List.mem_append_left _ (hall c z (by omega) hz)⟩
              clear hR hB hB' hu hall c2 hc hy hin hmem hroom
              go_wp2_with (at_builtin; go_must (refine wpList_append_lies _ rfl _ _ 24 rfl (w.heap.size + 1) 3 i0 (.int .i64 0) 1 8 Try.underlying24 hi hz0 hz1 hz2 rfl (by decide) _ m3 _ rfl (HO.out.2.alloc _) ⟨wr.heap.size, 0, none⟩ 1 1 [.int .i64 y] rfl rfl (one_new (size_set _ _ _) _ _) (oneCell_int _) (by decide) (by unfold maxLen; omega) (by omega) (by rw [size_set_alloc]; omega) (wr.heap.size + 1) (size_set_alloc _ _ _ _) ?_); intro g4 cap4 w1 hown1 hgrow hat hlt1)
              have HM : Hid (RI w w1 n (Q2 ++ [y]) (some ⟨g4, 0, none⟩) (m3 + 1) cap4) := ri_push HN.out.1 hown1 hgrow
              clear hown1 hgrow hat hlt1
              go_wp2
              go_roundg (row.length - (e + 1))
              case measure => go_light; omega
              case rel => go_light; exact ⟨e + 1, Q2 ++ [y], _, m3 + 1, cap4, by omega, by omega, by omega, rfl, by go_num, rfl, HM.out, HN.out.2⟩
          · have helz : ¬ (e : Int) < (row.length : Int) := by omega
            have HN : Hid (RI w wr n Q2 ao3 m3 cap3 ∧ Gr.Bfs n G a b Q2 (k + 1)) := ⟨hR, Gr.bfs_next hB hu HU.out (fun v hv => by
              rw [HGu.out] at hv
              obtain ⟨c, hc⟩ := List.mem_iff_getElem?.1 hv
              exact hall c v (by have := (List.getElem?_eq_some_iff.1 hc).1; omega) hc)⟩
            clear hR hB hu hall
            go_wp2
            go_roundg (n - (k + 1))
            case measure => go_light; omega
            case rel => go_light; exact ⟨k + 1, Q2, ao3, m3, cap3, by omega, hmn3, rfl, by go_num, rfl, HN.out⟩
    · have hltz : ¬ (k : Int) < (m : Int) := by omega
      have hkQ : k = Q.length := by have := hR.own.1; omega
      have HN : Hid (Reach G a b false ∧ Below w.heap.size w wr) := ⟨by
        rw [hkQ] at hB
        have := Gr.bfs_no hB
        unfold Reach; simp [this], hR.below⟩
      clear hR hB hkQ
      go_wp2
      go_ret
      exact ⟨BE.mk _ HN.out.1, HN.out.2⟩

end Go.Proofs.Qxb6602375a
