/-
  THE WALK OF zzTreeOK (28).
-/
import Derived.Test.Qxb6000090aParts
import Derived.Deep.QuietTactic
import Derived.BigQuiet
namespace Go.Proofs.Qxb6000090a
open Go.RowKit

def TreeB (l0 l1 l2 : Nat) (lv par en : Nat → Int) : Bool → Prop := fun b => b = true → l1 = l0 ∧ l2 = l0 ∧ Tr.Tree l0 lv par en
theorem treeB_no {l0 l1 l2 : Nat} {lv par en : Nat → Int} : TreeB l0 l1 l2 lv par en false := fun h => by cases h

theorem oneCell_int (x : Int) : ∀ u ∈ [Value.int .i64 x], u.oneCell' = true := by intro u hu; simp at hu; subst hu; rfl

/-! ### The memory of zzTreeOK: the stack in one new block, the wanted ends in the next -/
def natCells (F : List Nat) : List Value := F.map (fun x : Nat => Value.int .i64 (x : Int))
theorem natCells_snoc (F : List Nat) (x : Nat) : natCells F ++ [Value.int .i64 (x : Int)] = natCells (F ++ [x]) := by simp [natCells]
theorem natCells_length (F : List Nat) : (natCells F).length = F.length := by simp [natCells]
theorem natCells_get {F : List Nat} {i x : Nat} (h : F[i]? = some x) : (natCells F)[i]? = some (.int .i64 (x : Int)) := by simp [natCells, h]

structure TM (w wr : World) (n : Nat) (R : List Nat) (m : Nat) (we : Nat → Int) : Prop where
  below : Below w.heap.size w wr
  size : w.heap.size + 2 ≤ wr.heap.size
  len : m = R.length
  own : wr.ownsRow w.heap.size 3 1 (.slice (some ⟨w.heap.size, 0, none⟩) m n) m (natCells R.reverse)
  row : wr.rowIs (w.heap.size + 1) 3 n (fun v => .int .i64 (we v))

theorem tm_start (w : World) (n : Nat) (hn : n ≤ 4096) : TM w ((w.alloc (.cells (madeCells #[.int .i64 0] n) 3)).alloc (.cells (madeCells #[.int .i64 0] n) 3)) n [] 0 (fun _ => 0) := by
  refine ⟨((Below.refl _ _).alloc (Nat.le_refl _) _).alloc (by simp) _, by simp, rfl, ?_, ?_⟩
  · exact (World.ownsRow_made (base := w.heap.size) (e := 3) (size := 1) w (madeCells #[.int .i64 0] n) n (Nat.le_refl _) (by unfold maxLen; omega) (by simp [size_madeCells])).alloc _
  · have h := World.rowIs_made (w.alloc (.cells (madeCells #[.int .i64 0] n) 3)) (.int .i64 0) n 3
    simpa using h

theorem TM.drewN {w wr : World} {n : Nat} {R : List Nat} {m : Nat} {we : Nat → Int} (h : TM w wr n R m we) (q : Nat) : TM w (wr.drewN q) n R m we :=
  ⟨below_drewN h.below q, h.size, h.len, h.own, h.row⟩

theorem owns_other {w : World} {base g m cap : Nat} {xs : List Value} (h : w.ownsRow base 3 1 (.slice (some ⟨g, 0, none⟩) m cap) m xs) {a : Addr} (ha : a.block ≠ g) (u : Value) : (w.setCell a u).ownsRow base 3 1 (.slice (some ⟨g, 0, none⟩) m cap) m xs := by
  obtain ⟨h1, h2⟩ := h
  refine ⟨h1, ?_⟩
  rcases h2 with h2 | ⟨g', cap', cur, hv, hg, hh, r⟩
  · exact Or.inl h2
  · have e : g' = g := by cases hv; rfl
    exact Or.inr ⟨g', cap', cur, hv, hg, by rw [Below.heap_setCell _ _ _ _ (by rw [e]; exact fun h => ha h.symm)]; exact hh, r⟩

theorem tm_top {w wr : World} {n : Nat} {r : List Nat} {a m : Nat} {we : Nat → Int} (h : TM w wr n (a :: r) (m + 1) we) : wr.cell? ⟨w.heap.size, m, none⟩ = some (.int .i64 (a : Int)) ∧ m = r.length := by
  have hm : m = r.length := by have := h.len; simpa using this
  refine ⟨?_, hm⟩
  rw [h.own.cellAt m (by omega)]
  exact natCells_get (by rw [hm]; simp)

theorem tm_pop {w wr : World} {n : Nat} {r : List Nat} {a m : Nat} {we : Nat → Int} (i : Int) (h : TM w wr n (a :: r) (m + 1) we) :
    TM w (wr.setCell ⟨w.heap.size + 1, a, none⟩ (.int .i64 i)) n r m (Tr.upd we a i) := by
  have hm : m = r.length := by have := h.len; simpa using this
  refine ⟨h.below.setCell (by show w.heap.size ≤ w.heap.size + 1; omega) _, by have := h.size; simp [World.setCell]; omega, hm, ?_, (h.row.set a _).congr (fun v _ => by
    by_cases e : v = a
    · subst e; simp [Tr.upd]
    · simp [Tr.upd, e])⟩
  have ho := h.own
  rw [List.reverse_cons, ← natCells_snoc] at ho
  exact owns_other (ownsRow_pop (by rw [natCells_length]; simp [hm]) ho) (by show w.heap.size + 1 ≠ w.heap.size; omega) _

theorem tm_push {w wr w2 : World} {n : Nat} {R : List Nat} {i m : Nat} {we : Nat → Int} {o : Obj} (h : TM w wr n R m we)
    (ho : w2.ownsRow w.heap.size 3 1 (.slice (some ⟨w.heap.size, 0, none⟩) (m + 1) n) (m + 1) (natCells R.reverse ++ [.int .i64 (i : Int)])) (hg : (wr.alloc o).grownBy w2 (some w.heap.size)) : TM w w2 n (i :: R) (m + 1) we := by
  have hs := h.size
  have hs2 := hg.size
  simp at hs2
  refine ⟨(h.below.alloc (by omega) o).grown hg (by simp; omega) (fun k hk => by cases hk; omega), by omega, by simp [h.len], ?_, (h.row.alloc o).of_block (hg.block _ (by simp; omega) (by simp))⟩
  rw [List.reverse_cons, ← natCells_snoc]; exact ho

set_option maxHeartbeats 4000000 in
set_option maxRecDepth 1000000 in
theorem tree28 (a0 a1 a2 : Option Addr) (b0 o0 b1 o1 b2 o2 l0 l1 l2 c0 c1 c2 : Nat) (lv par en : Nat → Int) (w : World)
    (h0 : RowV w .i64 a0 b0 o0 l0 lv) (h1 : RowV w .i64 a1 b1 o1 l1 par) (h2 : RowV w .i64 a2 b2 o2 l2 en) (hl0 : l0 ≤ 4096) (hl1 : l1 ≤ 4096) (hl2 : l2 ≤ 4096) (hlv : ∀ i, i < l0 → lv i ≤ 9223372036854775807) :
    Calls Try.prog 28 #[.slice a0 l0 c0, .slice a1 l1 c1, .slice a2 l2 c2] w fun e w' => BE (TreeB l0 l1 l2 lv par en) e ∧ Below w.heap.size w w' := by
  have H0 : Hid (RowV w .i64 a0 b0 o0 l0 lv) := h0
  have H1 : Hid (RowV w .i64 a1 b1 o1 l1 par) := h1
  have H2 : Hid (RowV w .i64 a2 b2 o2 l2 en) := h2
  have HV : Hid (∀ i, i < l0 → lv i ≤ 9223372036854775807) := hlv
  clear h0 h1 h2 hlv
  by_cases hz : l0 = 0
  · have hzz : ((l0 : Int) == 0) = true := by simp; omega
    clear hz
    go_enter Try.func28, Try.ntmps28
    go_wp2_with fail
    go_ret
    exact ⟨BE.mk _ treeB_no, Below.refl _ _⟩
  have hzz : ((l0 : Int) == 0) = false := by simp; omega
  by_cases e1 : l1 = l0
  rotate_left
  · have e1z : ((l1 : Int) != (l0 : Int)) = true := by simp; omega
    go_enter Try.func28, Try.ntmps28
    go_wp2_with fail
    go_ret
    exact ⟨BE.mk _ treeB_no, Below.refl _ _⟩
  by_cases e2 : l2 = l0
  rotate_left
  · have e2z : ((l2 : Int) != (l0 : Int)) = true := by simp; omega
    subst e1
    go_enter Try.func28, Try.ntmps28
    go_wp2_with fail
    go_ret
    exact ⟨BE.mk _ treeB_no, Below.refl _ _⟩
  subst e1
  subst e2
  generalize hn : l2 = n at *
  clear hn
  have hpos : 0 < n := by omega
  have hposz : (0 : Int) < (n : Int) := by omega
  obtain rfl := H0.out.ha hpos
  obtain rfl := H1.out.ha hpos
  obtain rfl := H2.out.ha hpos
  have c00 : w.cell? ⟨b0, o0, none⟩ = some (.int .i64 (lv 0)) := by simpa using H0.out.cell 0 hpos
  by_cases hl : lv 0 = 0
  rotate_left
  · have hlz : (lv 0 != 0) = true := by simp [hl]
    go_enter Try.func28, Try.ntmps28
    go_wp2_with fail
    go_ret
    exact ⟨BE.mk _ treeB_no, Below.refl _ _⟩
  have hlz : (lv 0 != 0) = false := by simp [hl]
  clear hl hz
  go_enter Try.func28, Try.ntmps28
  go_wp2_with fail
  clear c00
  go_loopg [8] n (fun g i wr => ∃ j : Nat, j + 1 ≤ n ∧ g = n - j ∧ i = .int .i64 ((j : Int) + 1) ∧ Below w.heap.size w wr)
  case atStart => exact ⟨0, by omega, rfl, rfl, Below.refl _ _⟩
  case round =>
    obtain ⟨j, hj, rfl, rfl, hB⟩ := hrel
    by_cases hlt : j + 1 < n
    · have hltz : (j : Int) + 1 < (n : Int) := by omega
      have hjz : (0 : Int) ≤ (j : Int) + 1 := by omega
      have d1 := H0.out.cell (j + 1) hlt
      have d0 := H0.out.cell j (by omega)
      have k1 : wr.cell? ⟨b0, o0 + (j + 1), none⟩ = some (.int .i64 (lv (j + 1))) := by rw [hB.cell (p := ⟨b0, o0 + (j + 1), none⟩) (World.block_lt_of_cell? _ _ d1)]; exact d1
      have k0 : wr.cell? ⟨b0, o0 + j, none⟩ = some (.int .i64 (lv j)) := by rw [hB.cell (p := ⟨b0, o0 + j, none⟩) (World.block_lt_of_cell? _ _ d0)]; exact d0
      have hv := HV.out (j + 1) hlt
      have HB : Hid (Below w.heap.size w wr) := hB
      clear d1 d0 hB
      generalize lv (j + 1) = x at *
      generalize lv j = y at *
      by_cases hx : x < 1
      · have hxd : decide (x < 1) = true := by simpa using hx
        go_wp2_with fail
        go_quiet (fail)
        go_wp2_with fail
        go_ret
        exact ⟨BE.mk _ treeB_no, below_drewN HB.out _⟩
      · have hxd : decide (x < 1) = false := by simpa using hx
        have hx1 : 1 ≤ x := by omega
        by_cases hy : y < x - 1
        · go_wp2_with fail
          go_quiet (fail)
          go_wp2_with fail
          go_ret
          exact ⟨BE.mk _ treeB_no, below_drewN HB.out _⟩
        · go_wp2_with fail
          go_quiet (fail)
          go_wp2_with fail
          go_roundg (n - (j + 1))
          case measure => go_light; omega
          case rel => go_light; exact ⟨j + 1, by omega, rfl, by go_num, below_drewN HB.out _⟩
    · have hltz : ¬ (j : Int) + 1 < (n : Int) := by omega
      have HB : Hid (Below w.heap.size w wr) := hB
      clear hB
      obtain ⟨i0, hi, hz0, hz1, hz2⟩ := info_parts Try.info3
      have hmk0 := fun W : World => run_make (P := Try.prog) W 36 3 i0 (.int .i64 0) Try.underlying36 hi hz0 .i64 .i64 0 (n : Int) (by omega) (by omega) (by rw [hz2]; omega) (by omega)
      have hmk := run_make_row' (P := Try.prog) 36 3 (.int .i64 0) 8 Try.underlying36 Try.info3 rfl .i64 .i64 n (by omega) (by omega)
      have K0 : Hid (RowV wr .i64 (some ⟨b0, o0, none⟩) b0 o0 n lv) := H0.out.below HB.out
      have K1 : Hid (RowV wr .i64 (some ⟨b1, o1, none⟩) b1 o1 n par) := H1.out.below HB.out
      have K2 : Hid (RowV wr .i64 (some ⟨b2, o2, none⟩) b2 o2 n en) := H2.out.below HB.out
      clear H0 H1 H2
      generalize wr = w1 at *
      go_wp2_with fail
      clear hmk0 hmk
      -- THE SECOND LOOP: each node in turn
      go_loopg [9, 11] n (fun g st i wr => ∃ (R : List Nat) (we : Nat → Int) (k m : Nat), k ≤ n ∧ g = n - k ∧ i = .int .i64 k ∧ st = .slice (some ⟨w1.heap.size, 0, none⟩) m n ∧ TM w1 wr n R m we ∧ Tr.TI n lv R k we ∧ Tr.topOf R = (k : Int) - 1 ∧ ∀ t, t < k → Tr.PI lv t (par t))
      case atStart => exact ⟨[], fun _ => 0, 0, 0, Nat.zero_le _, rfl, rfl, rfl, tm_start w1 n hl0, Tr.ti_start, rfl, fun t ht => absurd ht (Nat.not_lt_zero _)⟩
      case round =>
        obtain ⟨R, we, k, m, hk, rfl, rfl, rfl, hM, hT, htop, hpar⟩ := hrel
        by_cases hkn : k < n
        · have hknz : (k : Int) < (n : Int) := by omega
          have HP : Hid (∀ t, t < k → Tr.PI lv t (par t)) := hpar
          have HS : Hid (TM w1 wr n R m we ∧ Tr.TI n lv R k we ∧ Tr.Gap lv R k) := ⟨hM, hT, Tr.gap_start htop⟩
          have hm : m ≤ k := by have := hM.len; have := hT.len; omega
          clear hM hT htop hpar
          go_wp2_with fail
          -- THE THIRD LOOP: those that end here are taken off
          go_loopg [9] m (fun g st wr => ∃ (R : List Nat) (we : Nat → Int) (m : Nat), g = m ∧ m ≤ k ∧ st = .slice (some ⟨w1.heap.size, 0, none⟩) m n ∧ TM w1 wr n R m we ∧ Tr.TI n lv R k we ∧ Tr.Gap lv R k)
          case atStart => exact ⟨R, we, m, rfl, hm, rfl, HS.out⟩
          case round =>
            clear HS hm
            obtain ⟨R2, we2, m2, rfl, hm2, rfl, hM, hT, hG⟩ := hrel
            have q1 := K1.out.cell k hkn
            have kp : wr.cell? ⟨b1, o1 + k, none⟩ = some (.int .i64 (par k)) := by rw [hM.below.cell (p := ⟨b1, o1 + k, none⟩) (World.block_lt_of_cell? _ _ q1)]; exact q1
            clear q1
            cases R2 with
            | nil =>
              obtain rfl : gk = 0 := hM.len
              have HM : Hid (TM w1 wr n [] 0 we2 ∧ Tr.TI n lv [] k we2 ∧ Tr.Gap lv [] k) := ⟨hM, hT, hG⟩
              have HLT : Hid (∀ a r, ([] : List Nat) = a :: r → lv a < lv k) := fun a r e => by cases e
              clear hM hT hG
              by_cases hpe : par k = -1
              · have hpz : (par k != -1) = false := by simp [hpe]
                have HPK : Hid (∀ t, t < k + 1 → Tr.PI lv t (par t)) := fun t ht => by
                  by_cases e : t = k
                  · subst e; rw [hpe]; exact Tr.pi_of HM.out.2.1 HM.out.2.2 HLT.out
                  · exact HP.out t (by omega)
                have HT : Hid (Tr.TI n lv (k :: []) (k + 1) we2) := Tr.ti_push HM.out.2.1 HM.out.2.2 HLT.out
                have HO : Hid ((wr.drewN 0).ownsRow w1.heap.size 3 1 (.slice (some ⟨w1.heap.size, 0, none⟩) (0) n) (0) (natCells ([]).reverse)) := HM.out.1.own
                clear hpe
                go_wp2_with fail
                go_quiet (fail)
                go_wp2_with (at_builtin; go_must (refine wpList_append_fits _ rfl _ _ 36 rfl w1.heap.size 3 i0 1 Try.underlying36 hi hz1 w1.heap.size 0 n (natCells [].reverse) rfl (HO.out.alloc _) ⟨wr.heap.size, 0, none⟩ 1 1 [.int .i64 k] rfl rfl (cell_one_new _ _ _) (oneCell_int _) (by omega) ?_); intro w2 hown2 hgrow2)
                have HN : Hid (TM w1 w2 n (k :: []) (0 + 1) we2) := tm_push (HM.out.1.drewN nq) hown2 hgrow2
                clear hown2 hgrow2
                go_wp2_with fail
                go_roundg (n - (k + 1))
                case measure => go_light; omega
                case rel => go_light; exact ⟨k :: [], we2, k + 1, 0 + 1, by omega, rfl, by go_num, rfl, HN.out, HT.out, by simp [Tr.topOf], HPK.out⟩
              · have hpz : (par k != -1) = true := by simp [hpe]
                have HF : Hid (Below w.heap.size w wr) := HB.out.trans (HM.out.1.below.mono HB.out.size)
                go_wp2_with fail
                go_quiet (fail)
                go_wp2_with fail
                go_ret
                exact ⟨BE.mk _ treeB_no, below_drewN HF.out _⟩
            | cons a r =>
              obtain ⟨m', rfl⟩ : ∃ m', gk = m' + 1 := ⟨r.length, by have := hM.len; simpa using this⟩
              obtain ⟨ct, hmr⟩ := tm_top hM
              have hak : a < k := hT.lt a (List.mem_cons_self ..)
              have hakz : (a : Int) < (n : Int) := by omega
              have hmz : (0 : Int) < (m' : Int) + 1 := by omega
              have q1 := K0.out.cell k hkn
              have q2 := K0.out.cell a (by omega)
              have kk : wr.cell? ⟨b0, o0 + k, none⟩ = some (.int .i64 (lv k)) := by rw [hM.below.cell (p := ⟨b0, o0 + k, none⟩) (World.block_lt_of_cell? _ _ q1)]; exact q1
              have ka : wr.cell? ⟨b0, o0 + a, none⟩ = some (.int .i64 (lv a)) := by rw [hM.below.cell (p := ⟨b0, o0 + a, none⟩) (World.block_lt_of_cell? _ _ q2)]; exact q2
              have e1 : wr.cell? ⟨w1.heap.size + 1, a, none⟩ = some (.int .i64 (we2 a)) := hM.row.cell (by omega)
              have e2 : wr.frozen? ⟨w1.heap.size + 1, a, none⟩ = false := hM.row.frozen a
              have HM : Hid (TM w1 wr n (a :: r) (m' + 1) we2 ∧ Tr.TI n lv (a :: r) k we2 ∧ Tr.Gap lv (a :: r) k) := ⟨hM, hT, hG⟩
              clear hM hT hG q1 q2 hmr
              by_cases hle : lv k ≤ lv a
              · have HT : Hid (Tr.TI n lv r k (Tr.upd we2 a (k : Int)) ∧ (k < n → Tr.Gap lv r k)) := Tr.ti_pop HM.out.2.1 HM.out.2.2 hk (fun _ => hle)
                go_wp2_with fail
                go_quiet (fail)
                have HN : Hid (TM w1 ((wr.drewN nq).setCell ⟨w1.heap.size + 1, a, none⟩ (.int .i64 (k : Int))) n r m' (Tr.upd we2 a (k : Int))) := tm_pop (k : Int) (HM.out.1.drewN nq)
                go_wp2_with fail
                go_roundg m'
                case measure => go_light; omega
                case rel => go_light; exact ⟨r, _, m', rfl, by omega, rfl, HN.out, HT.out.1, HT.out.2 hkn⟩
              · have HLT : Hid (∀ a' r', (a :: r) = a' :: r' → lv a' < lv k) := fun a' r' e => by cases e; omega
                by_cases hpe : par k = (a : Int)
                · have hpz : (par k != (a : Int)) = false := by simp [hpe]
                  have HPK : Hid (∀ t, t < k + 1 → Tr.PI lv t (par t)) := fun t ht => by
                    by_cases e : t = k
                    · subst e; rw [hpe]; exact Tr.pi_of HM.out.2.1 HM.out.2.2 HLT.out
                    · exact HP.out t (by omega)
                  have HT : Hid (Tr.TI n lv (k :: (a :: r)) (k + 1) we2) := Tr.ti_push HM.out.2.1 HM.out.2.2 HLT.out
                  have HO : Hid ((wr.drewN 0).ownsRow w1.heap.size 3 1 (.slice (some ⟨w1.heap.size, 0, none⟩) ((m' + 1)) n) ((m' + 1)) (natCells ((a :: r)).reverse)) := HM.out.1.own
                  clear hpe
                  go_wp2_with fail
                  go_quiet (fail)
                  go_wp2_with (at_builtin; go_must (refine wpList_append_fits _ rfl _ _ 36 rfl w1.heap.size 3 i0 1 Try.underlying36 hi hz1 w1.heap.size (m' + 1) n (natCells (a :: r).reverse) rfl (HO.out.alloc _) ⟨wr.heap.size, 0, none⟩ 1 1 [.int .i64 k] rfl rfl (cell_one_new _ _ _) (oneCell_int _) (by omega) ?_); intro w2 hown2 hgrow2)
                  have HN : Hid (TM w1 w2 n (k :: (a :: r)) ((m' + 1) + 1) we2) := tm_push (HM.out.1.drewN nq) hown2 hgrow2
                  clear hown2 hgrow2
                  go_wp2_with fail
                  go_roundg (n - (k + 1))
                  case measure => go_light; omega
                  case rel => go_light; exact ⟨k :: (a :: r), we2, k + 1, (m' + 1) + 1, by omega, rfl, by go_num, rfl, HN.out, HT.out, by simp [Tr.topOf], HPK.out⟩
                · have hpz : (par k != (a : Int)) = true := by simp [hpe]
                  have HF : Hid (Below w.heap.size w wr) := HB.out.trans (HM.out.1.below.mono HB.out.size)
                  go_wp2_with fail
                  go_quiet (fail)
                  go_wp2_with fail
                  go_ret
                  exact ⟨BE.mk _ treeB_no, below_drewN HF.out _⟩
        · have hknz : ¬ (k : Int) < (n : Int) := by omega
          obtain rfl : n = k := by omega
          have HS : Hid (TM w1 wr n R m we ∧ Tr.TI n lv R n we) := ⟨hM, hT⟩
          have hm : m ≤ n := by have := hM.len; have := hT.len; omega
          have HP : Hid (∀ t, t < n → Tr.PI lv t (par t)) := hpar
          clear hM hT htop hpar
          go_wp2_with fail
          -- THE FOURTH LOOP: those left end with the list
          go_loopg [9] m (fun g st wr => ∃ (R : List Nat) (we : Nat → Int) (m : Nat), g = m ∧ m ≤ n ∧ st = .slice (some ⟨w1.heap.size, 0, none⟩) m n ∧ TM w1 wr n R m we ∧ Tr.TI n lv R n we)
          case atStart => exact ⟨R, we, m, rfl, hm, rfl, HS.out⟩
          case round =>
            clear HS hm
            obtain ⟨R2, we2, m2, rfl, hm2, rfl, hM, hT⟩ := hrel
            cases R2 with
            | nil =>
              obtain rfl : gk = 0 := hM.len
              have HM : Hid (TM w1 wr n [] 0 we2) := hM
              have HE : Hid (∀ j, j < n → Tr.EI lv n j (we2 j)) := fun j hj => hT.done j hj List.not_mem_nil
              clear hM hT
              go_wp2_with fail
              -- THE FIFTH LOOP: the ends are as wanted
              go_loopg [15] n (fun g i wr => ∃ j : Nat, j ≤ n ∧ g = n - j ∧ i = .int .i64 j ∧ TM w1 wr n [] 0 we2 ∧ ∀ t, t < j → en t = we2 t)
              case atStart => exact ⟨0, Nat.zero_le _, rfl, rfl, HM.out, fun t ht => absurd ht (Nat.not_lt_zero _)⟩
              case round =>
                clear HM
                obtain ⟨j, hjn, rfl, rfl, hM, hall⟩ := hrel
                by_cases hlt : j < n
                · have hltz : (j : Int) < (n : Int) := by omega
                  have q1 := K2.out.cell j hlt
                  have k1 : wr.cell? ⟨b2, o2 + j, none⟩ = some (.int .i64 (en j)) := by rw [hM.below.cell (p := ⟨b2, o2 + j, none⟩) (World.block_lt_of_cell? _ _ q1)]; exact q1
                  have k2 : wr.cell? ⟨w1.heap.size + 1, j, none⟩ = some (.int .i64 (we2 j)) := hM.row.cell hlt
                  have HM : Hid (TM w1 wr n [] 0 we2) := hM
                  have HA : Hid (∀ t, t < j → en t = we2 t) := hall
                  clear hM hall q1
                  by_cases hee : en j = we2 j
                  · have hez : (en j != we2 j) = false := by simp [hee]
                    have HB2 : Hid (∀ t, t < j + 1 → en t = we2 t) := fun t ht => by
                      by_cases e : t = j
                      · subst e; exact hee
                      · exact HA.out t (by omega)
                    clear hee
                    go_wp2_with fail
                    go_quiet (fail)
                    go_wp2_with fail
                    go_roundg (n - (j + 1))
                    case measure => go_light; omega
                    case rel => go_light; exact ⟨j + 1, by omega, rfl, by go_num, HM.out.drewN _, HB2.out⟩
                  · have hez : (en j != we2 j) = true := by simp [hee]
                    have HF : Hid (Below w.heap.size w wr) := HB.out.trans (HM.out.below.mono HB.out.size)
                    go_wp2_with fail
                    go_quiet (fail)
                    go_wp2_with fail
                    go_ret
                    exact ⟨BE.mk _ treeB_no, below_drewN HF.out _⟩
                · have hltz : ¬ (j : Int) < (n : Int) := by omega
                  obtain rfl : n = j := by omega
                  have HF : Hid (Below w.heap.size w wr) := HB.out.trans (hM.below.mono HB.out.size)
                  have HT : Hid (TreeB n n n lv par en true) := fun _ => ⟨rfl, rfl, hpos, HP.out, fun i hi => by rw [hall i hi]; exact HE.out i hi⟩
                  clear hM hall
                  go_wp2_with fail
                  go_ret
                  exact ⟨BE.mk _ HT.out, HF.out⟩
            | cons a r =>
              obtain ⟨m', rfl⟩ : ∃ m', gk = m' + 1 := ⟨r.length, by have := hM.len; simpa using this⟩
              obtain ⟨ct, hmr⟩ := tm_top hM
              have hak : a < n := hT.lt a (List.mem_cons_self ..)
              have hakz : (a : Int) < (n : Int) := by omega
              have hmz : (0 : Int) < (m' : Int) + 1 := by omega
              have e1 : wr.cell? ⟨w1.heap.size + 1, a, none⟩ = some (.int .i64 (we2 a)) := hM.row.cell hak
              have e2 : wr.frozen? ⟨w1.heap.size + 1, a, none⟩ = false := hM.row.frozen a
              have HN : Hid (TM w1 (wr.setCell ⟨w1.heap.size + 1, a, none⟩ (.int .i64 (n : Int))) n r m' (Tr.upd we2 a (n : Int)) ∧ Tr.TI n lv r n (Tr.upd we2 a (n : Int))) := ⟨tm_pop (n : Int) hM, Tr.ti_pop_end hT⟩
              clear hM hT hmr
              go_wp2_with fail
              go_roundg m'
              case measure => go_light; omega
              case rel => go_light; exact ⟨r, _, m', rfl, by omega, rfl, HN.out⟩

end Go.Proofs.Qxb6000090a
