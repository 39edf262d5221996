/-
  THE WALKS OF THE LAWS' SMALL HELPERS: zzBytes (17), zzAddString (12), zzAddWords (13), zzCloneStrings (18), zzSeenBefore (23), zzContains (24).
-/
import Derived.Test.Qxb6001663aMem
import Derived.BigQuiet
import Derived.Deep.QuietTactic
import Derived.Deep.DeepMust
namespace Go.Proofs.Qxb6001663a
open Go.RowKit

theorem Try.info9 : (Try.prog.info? 9).map (fun i => (i.zero, i.size, i.bytes)) = some (some (.string ByteArray.empty), 1, 16) := by kernel_rfl

/-- A []string AS IT LIES IN A WORLD. -/
structure SV (w : World) (ga : Option Addr) (gb go n : Nat) (nm : Nat → ByteArray) : Prop where
  hga : 0 < n → ga = some ⟨gb, go, none⟩
  cell : ∀ r, r < n → w.cell? ⟨gb, go + r, none⟩ = some (.string (nm r))
  nb : n ≤ 9223372036854775807
  sb : ∀ r, r < n → (nm r).size ≤ 9223372036854775807

theorem SV.below {w w' : World} {ga : Option Addr} {gb go n : Nat} {nm : Nat → ByteArray} (h : SV w ga gb go n nm) (hb : Below w.heap.size w w') : SV w' ga gb go n nm :=
  ⟨h.hga, fun r hr => by rw [hb.cell (p := ⟨gb, go + r, none⟩) (World.block_lt_of_cell? _ _ (h.cell r hr))]; exact h.cell r hr, h.nb, h.sb⟩

/-- An ending that hands back SOME bool, of which p holds. -/
def BE (p : Bool → Prop) (e : Ending) : Prop := ∃ b : Bool, e = .returned (.bool b) ∧ p b
theorem BE.mk {p : Bool → Prop} (b : Bool) (h : p b) : BE p (.returned (.bool b)) := ⟨b, rfl, h⟩
def AnyB : Bool → Prop := fun _ => True
/-- An ending that hands back SOME int, of which p holds. -/
def IE (p : Int → Prop) (e : Ending) : Prop := ∃ z : Int, e = .returned (.int .i64 z) ∧ p z
theorem IE.mk {p : Int → Prop} (z : Int) (h : p z) : IE p (.returned (.int .i64 z)) := ⟨z, rfl, h⟩
def Cap : Int → Prop := fun z => 0 ≤ z ∧ z ≤ 1048577

set_option maxHeartbeats 1000000 in
theorem bytes_any (ga : Option Addr) (gb go n Gc : Nat) (nm : Nat → ByteArray) (q : ByteArray) (w : World) (hg : SV w ga gb go n nm) (hq : q.size ≤ 9223372036854775807) :
    Calls Try.prog 17 #[.slice ga n Gc, .string q] w fun e w' => BE AnyB e ∧ w' = w := by
  have hnb := hg.nb
  by_cases hn : (n : Int) ≤ 1048576
  · go_enter Try.func17, Try.ntmps17
    go_wp2
    go_loop [5, 6] (fun t i => ∃ (k : Nat) (z : Int), k ≤ n ∧ i = .int .i64 k ∧ t = .int .i64 z ∧ 0 ≤ z ∧ z ≤ 1048576) (fun _ i => n - (intOf i).toNat)
    case atStart => exact ⟨0, n, Nat.zero_le _, rfl, rfl, by omega, by omega⟩
    case round =>
      obtain ⟨k, z, hk, rfl, rfl, hz0, hz1⟩ := hrel
      by_cases hlt : k < n
      · obtain rfl := hg.hga (by omega)
        have hrow := hg.cell k hlt
        have hlb := hg.sb k hlt
        have hltz : (k : Int) < (n : Int) := by omega
        clear hg
        by_cases hL : ((nm k).size : Int) ≤ 1048576
        · by_cases hs : z + ((nm k).size : Int) ≤ 1048576
          · go_wp2
            go_round
            case rel => exact ⟨k + 1, z + ((nm k).size : Int), by omega, by go_num, rfl, by omega, by omega⟩
            case measure => simp [intOf]; omega
          · go_wp2
            go_ret
            exact ⟨BE.mk false trivial, rfl⟩
        · go_wp2
          go_ret
          exact ⟨BE.mk false trivial, rfl⟩
      · have hltz : ¬ (k : Int) < (n : Int) := by omega
        by_cases hL : (q.size : Int) ≤ 1048576
        · by_cases hs : z + (q.size : Int) ≤ 1048576
          · go_wp2
            go_ret
            exact ⟨BE.mk true trivial, rfl⟩
          · go_wp2
            go_ret
            exact ⟨BE.mk false trivial, rfl⟩
        · go_wp2
          go_ret
          exact ⟨BE.mk false trivial, rfl⟩
  · go_enter Try.func17, Try.ntmps17
    go_wp2
    go_ret
    exact ⟨BE.mk false trivial, rfl⟩

theorem addS_any (z : Int) (q : ByteArray) (w : World) (hz : 0 ≤ z) (hz1 : z ≤ 1048592) (hq : q.size ≤ 9223372036854775807) :
    Calls Try.prog 12 #[.int .i64 z, .string q] w fun e w' => IE Cap e ∧ w' = w := by
  by_cases hL : (q.size : Int) ≤ 1048576
  · by_cases hs : z + (q.size : Int) ≤ 1048576
    · go_enter Try.func12, Try.ntmps12
      go_wp2
      go_ret
      exact ⟨IE.mk _ ⟨by omega, by omega⟩, rfl⟩
    · go_enter Try.func12, Try.ntmps12
      go_wp2
      go_ret
      exact ⟨IE.mk _ ⟨by omega, by omega⟩, rfl⟩
  · go_enter Try.func12, Try.ntmps12
    go_wp2
    go_ret
    exact ⟨IE.mk _ ⟨by omega, by omega⟩, rfl⟩

set_option maxHeartbeats 1000000 in
theorem addW_any (ga : Option Addr) (gb go n Gc : Nat) (nm : Nat → ByteArray) (w : World) (hg : SV w ga gb go n nm) :
    Calls Try.prog 13 #[.int .i64 0, .slice ga n Gc] w fun e w' => IE Cap e ∧ w' = w := by
  have hnb := hg.nb
  have HV : Hid (SV w ga gb go n nm) := hg
  clear hg
  go_enter Try.func13, Try.ntmps13
  go_wp2
  go_loop [0, 5] (fun t i => ∃ (k : Nat) (z : Int), k ≤ n ∧ i = .int .i64 k ∧ t = .int .i64 z ∧ 0 ≤ z ∧ z ≤ 1048576) (fun _ i => n - (intOf i).toNat)
  case atStart => exact ⟨0, 24, Nat.zero_le _, rfl, rfl, by omega, by omega⟩
  case round =>
    obtain ⟨k, z, hk, rfl, rfl, hz0, hz1⟩ := hrel
    by_cases hlt : k < n
    · obtain rfl := HV.out.hga (by omega)
      have hrow := HV.out.cell k hlt
      have hlb := HV.out.sb k hlt
      have hltz : (k : Int) < (n : Int) := by omega
      go_wp2_with fail
      refine (addS_any (z + 16) (nm k) _ (by omega) (by omega) hlb).mono ?_
      rintro e w1 ⟨⟨z1, rfl, hc⟩, hw⟩
      subst w1
      obtain ⟨hc0, hc1⟩ := hc
      by_cases hs : z1 ≤ 1048576
      · go_wp2_with fail
        go_round
        case rel => exact ⟨k + 1, z1, by omega, by go_num, rfl, by omega, by omega⟩
        case measure => simp [intOf]; omega
      · go_wp2_with fail
        go_ret
        exact ⟨IE.mk _ ⟨by omega, by omega⟩, rfl⟩
    · have hltz : ¬ (k : Int) < (n : Int) := by omega
      go_wp2_with fail
      go_ret
      exact ⟨IE.mk _ ⟨by omega, by omega⟩, rfl⟩

/-! ### The copy of the names -/
def cpv (nm : Nat → ByteArray) (k : Nat) : Nat → Value := fun i => if i < k then .string (nm i) else .string ByteArray.empty

structure Cp (w wr : World) (n : Nat) (nm : Nat → ByteArray) (r : Nat) : Prop where
  below : Below w.heap.size w wr
  row : wr.rowIs w.heap.size 9 n (cpv nm r)

theorem cp_start (w : World) (n : Nat) (nm : Nat → ByteArray) : Cp w (w.alloc (.cells (madeCells #[.string ByteArray.empty] n) 9)) n nm 0 :=
  ⟨(Below.refl _ _).alloc (Nat.le_refl _) _, (World.rowIs_made w _ n 9).congr (fun j _ => by simp [cpv])⟩

theorem cp_step {w wr : World} {n : Nat} {nm : Nat → ByteArray} {c : Nat} (h : Cp w wr n nm c) : Cp w (wr.setCell ⟨w.heap.size, c, none⟩ (.string (nm c))) n nm (c + 1) := by
  refine ⟨h.below.setCell (Nat.le_refl _) _, (h.row.set c _).congr (fun i _ => ?_)⟩
  simp only [cpv]
  by_cases e : i = c
  · subst e; simp
  · rw [if_neg e]
    by_cases hlt : i < c
    · rw [if_pos hlt, if_pos (by omega)]
    · rw [if_neg hlt, if_neg (by omega)]

/-- An ending that hands back the same names in a slice. -/
def SE (n : Nat) (nm : Nat → ByteArray) (e : Ending) (w' : World) : Prop := ∃ (ga : Option Addr) (gb go cap : Nat), e = .returned (.slice ga n cap) ∧ SV w' ga gb go n nm

theorem cp_done {w wr : World} {n cap : Nat} {nm : Nat → ByteArray} (h : Cp w wr n nm n) (hn : n ≤ 9223372036854775807) (hs : ∀ r, r < n → (nm r).size ≤ 9223372036854775807) :
    SE n nm (.returned (.slice (some ⟨w.heap.size, 0, none⟩) n cap)) wr :=
  ⟨_, w.heap.size, 0, cap, rfl, fun _ => rfl, fun r hr => by rw [Nat.zero_add, h.row.cell hr]; simp [cpv, hr], hn, hs⟩

set_option maxHeartbeats 1000000 in
theorem clone_any (ga : Option Addr) (gb go n Gc : Nat) (nm : Nat → ByteArray) (w : World) (hg : SV w ga gb go n nm) (hn : n ≤ 512) :
    Calls Try.prog 18 #[.slice ga n Gc] w fun e w' => SE n nm e w' ∧ Below w.heap.size w w' := by
  have HV : Hid (SV w ga gb go n nm) := hg
  clear hg
  have hmk := run_make_row' (P := Try.prog) 28 9 (.string ByteArray.empty) 16 Try.underlying28 Try.info9 rfl .i64 .i64 n (by omega) (by omega)
  cases ga with
  | none =>
    have hn0 : n = 0 := by
      rcases Nat.eq_zero_or_pos n with h | h
      · exact h
      · have := HV.out.hga h; cases this
    subst hn0
    have hnil := fun W => Lib.run_eql_slice_nil (P := Try.prog) W 28 9 none 0 Gc 0 0 Try.underlying28
    go_enter Try.func18, Try.ntmps18
    go_wp2
    go_ret
    exact ⟨⟨none, 0, 0, 0, rfl, fun h => absurd h (Nat.lt_irrefl _), fun _ h => absurd h (Nat.not_lt_zero _), by omega, fun _ h => absurd h (Nat.not_lt_zero _)⟩, Below.refl _ _⟩
  | some a0 =>
    have hnil := fun W => Lib.run_eql_slice_nil (P := Try.prog) W 28 9 (some a0) n Gc 0 0 Try.underlying28
    go_enter Try.func18, Try.ntmps18
    go_wp2
    clear hmk hnil
    go_loopg [4] n (fun g i wr => ∃ r : Nat, r ≤ n ∧ g = n - r ∧ i = .int .i64 r ∧ Cp w wr n nm r)
    case atStart => exact ⟨0, Nat.zero_le _, rfl, rfl, cp_start w n nm⟩
    case round =>
      obtain ⟨r, hr, rfl, rfl, hO⟩ := hrel
      by_cases hlt : r < n
      · have hltz : (r : Int) < (n : Int) := by omega
        have hga := HV.out.hga (by omega)
        obtain rfl : a0 = ⟨gb, go, none⟩ := by simpa using hga
        clear hga
        have hc := HV.out.cell r hlt
        have c0 : wr.cell? ⟨gb, go + r, none⟩ = some (.string (nm r)) := by rw [hO.below.cell (p := ⟨gb, go + r, none⟩) (World.block_lt_of_cell? _ _ hc)]; exact hc
        have c2 : wr.cell? ⟨w.heap.size, r, none⟩ = some (.string ByteArray.empty) := by rw [hO.row.cell hlt]; simp [cpv]
        have c3 : wr.frozen? ⟨w.heap.size, r, none⟩ = false := hO.row.frozen r
        have HN : Hid (Cp w (wr.setCell ⟨w.heap.size, r, none⟩ (.string (nm r))) n nm (r + 1)) := cp_step hO
        clear hO hc
        go_wp2
        go_roundg (n - (r + 1))
        case measure => go_light; omega
        case rel => go_light; exact ⟨r + 1, by omega, rfl, by go_num, HN.out⟩
      · have hltz : ¬ (r : Int) < (n : Int) := by omega
        obtain rfl : n = r := by omega
        have HO : Hid (Cp w wr n nm n) := hO
        clear hO
        go_wp2
        go_ret
        exact ⟨cp_done HO.out (by omega) HV.out.sb, HO.out.below⟩

/-! ### Seen before, contains -/
def IsSeen (nm : Nat → ByteArray) (i : Nat) : Bool → Prop := fun b => b = true ↔ nm i ∈ firsts nm i
def IsIn (nm : Nat → ByteArray) (n : Nat) (q : ByteArray) : Bool → Prop := fun b => b = true ↔ q ∈ firsts nm n
def NotTo (nm : Nat → ByteArray) (k : Nat) (q : ByteArray) : Prop := ∀ j, j < k → nm j ≠ q

theorem notTo_succ {nm : Nat → ByteArray} {k : Nat} {q : ByteArray} (h : NotTo nm k q) (h1 : nm k ≠ q) : NotTo nm (k + 1) q := fun j hj => by
  by_cases e : j = k
  · subst e; exact h1
  · exact h j (by omega)
theorem notTo_end {nm : Nat → ByteArray} {k : Nat} {q : ByteArray} (h : NotTo nm k q) : (false = true ↔ q ∈ firsts nm k) := by
  rw [mem_firsts]
  constructor
  · intro h; cases h
  · rintro ⟨j, hj, e⟩; exact absurd e (h j hj)
theorem found {nm : Nat → ByteArray} {k i : Nat} {q : ByteArray} (hk : k < i) (h : nm k = q) : (true = true ↔ q ∈ firsts nm i) := by
  rw [mem_firsts]
  exact ⟨fun _ => ⟨k, hk, h⟩, fun _ => rfl⟩

theorem bne_list {a b : ByteArray} (h : a ≠ b) : (a.toList == b.toList) = false := by
  rw [beq_eq_false_iff_ne]
  intro e
  rw [ByteArray.toList_eq, ByteArray.toList_eq] at e
  exact h (Go.WideShapes.bytes_inj e)

set_option maxHeartbeats 1000000 in
theorem seen_any (ga : Option Addr) (gb go n Gc : Nat) (nm : Nat → ByteArray) (i : Nat) (w : World) (hg : SV w ga gb go n nm) (hi : i < n) :
    Calls Try.prog 23 #[.slice ga n Gc, .int .i64 i] w fun e w' => BE (IsSeen nm i) e ∧ Below w.heap.size w w' := by
  have hnb := hg.nb
  obtain rfl := hg.hga (by omega)
  have HV : Hid (∀ r, r < n → w.cell? ⟨gb, go + r, none⟩ = some (.string (nm r))) := hg.cell
  have hiz : (i : Int) < (n : Int) := by omega
  have hci := hg.cell i hi
  have HC : Hid (w.cell? ⟨gb, go + i, none⟩ = some (.string (nm i))) := hci
  clear hg hci
  go_enter Try.func23, Try.ntmps23
  go_wp2
  go_loopg [5] i (fun g v wr => ∃ k : Nat, k ≤ i ∧ g = i - k ∧ v = .int .i64 k ∧ NotTo nm k (nm i) ∧ Below w.heap.size w wr)
  case atStart => exact ⟨0, Nat.zero_le _, rfl, rfl, fun j hj => absurd hj (Nat.not_lt_zero _), Below.refl _ _⟩
  case round =>
    obtain ⟨k, hk, rfl, rfl, hnot, hbel⟩ := hrel
    by_cases hlt : k < i
    · have hltz : (k : Int) < (i : Int) := by omega
      have hknz : (k : Int) < (n : Int) := by omega
      have c0 : wr.cell? ⟨gb, go + k, none⟩ = some (.string (nm k)) := by rw [hbel.cell (p := ⟨gb, go + k, none⟩) (World.block_lt_of_cell? _ _ (HV.out k (by omega)))]; exact HV.out k (by omega)
      have c1 : wr.cell? ⟨gb, go + i, none⟩ = some (.string (nm i)) := by rw [hbel.cell (p := ⟨gb, go + i, none⟩) (World.block_lt_of_cell? _ _ HC.out)]; exact HC.out
      have HB : Hid (Below w.heap.size w wr) := hbel
      have HN : Hid (NotTo nm k (nm i)) := hnot
      clear hbel hnot
      by_cases he : nm k = nm i
      · have HE : Hid (nm k = nm i) := he
        rw [he] at c0
        clear he
        go_wp2_with fail
        go_quiet (fail)
        go_wp2_with fail
        go_ret
        exact ⟨BE.mk true (found hlt HE.out), below_drewN HB.out _⟩
      · have HE : Hid (nm k ≠ nm i) := he
        have heb : ((nm k).toList == (nm i).toList) = false := bne_list he
        clear he
        go_wp2_with fail
        go_quiet (fail)
        go_wp2_with fail
        go_roundg (i - (k + 1))
        case measure => go_light; omega
        case rel => go_light; exact ⟨k + 1, by omega, rfl, by go_num, notTo_succ HN.out HE.out, below_drewN HB.out _⟩
    · have hltz : ¬ (k : Int) < (i : Int) := by omega
      obtain rfl : i = k := by omega
      have HB : Hid (Below w.heap.size w wr) := hbel
      have HN : Hid (NotTo nm i (nm i)) := hnot
      clear hbel hnot
      go_wp2_with fail
      go_ret
      exact ⟨BE.mk false (notTo_end HN.out), HB.out⟩

set_option maxHeartbeats 1000000 in
theorem contains_any (ga : Option Addr) (gb go n Gc : Nat) (nm : Nat → ByteArray) (q : ByteArray) (w : World) (hg : SV w ga gb go n nm) :
    Calls Try.prog 24 #[.slice ga n Gc, .string q] w fun e w' => BE (IsIn nm n q) e ∧ w' = w := by
  have hnb := hg.nb
  go_enter Try.func24, Try.ntmps24
  go_wp2
  go_loop [5] (fun v => ∃ k : Nat, k ≤ n ∧ v = .int .i64 k ∧ NotTo nm k q) (fun v => n - (intOf v).toNat)
  case atStart => exact ⟨0, Nat.zero_le _, rfl, fun j hj => absurd hj (Nat.not_lt_zero _)⟩
  case round =>
    obtain ⟨k, hk, rfl, hnot⟩ := hrel
    by_cases hlt : k < n
    · have hltz : (k : Int) < (n : Int) := by omega
      obtain rfl := hg.hga (by omega)
      have c0 := hg.cell k hlt
      have HN : Hid (NotTo nm k q) := hnot
      clear hnot hg
      by_cases he : nm k = q
      · have HE : Hid (nm k = q) := he
        rw [he] at c0
        clear he
        go_wp2_with fail
        go_ret
        exact ⟨BE.mk true (found hlt HE.out), rfl⟩
      · have HE : Hid (nm k ≠ q) := he
        have heb : ((nm k).toList == q.toList) = false := bne_list he
        clear he
        go_wp2_with fail
        go_round
        case rel => exact ⟨k + 1, by omega, by go_num, notTo_succ HN.out HE.out⟩
        case measure => simp [intOf]; omega
    · have hltz : ¬ (k : Int) < (n : Int) := by omega
      obtain rfl : n = k := by omega
      have HN : Hid (NotTo nm n q) := hnot
      clear hnot hg
      go_wp2_with fail
      go_ret
      exact ⟨BE.mk false (notTo_end HN.out), rfl⟩

end Go.Proofs.Qxb6001663a
