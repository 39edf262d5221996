/-
  ROWS OF NUMBERS AS THEY LIE IN A WORLD; the walks of zzBytes (17, 23), zzCloneInts (19), zzCloneU32 (20), zzIsBelow (24).
-/
import Derived.Test.Qxb6000090aProg
import Derived.Test.Qxb6000090aPlain
import Derived.WalkKit
import Derived.WalkSmall
import Derived.WalkSpells
import Derived.WalkLawsBesides
import Derived.Deep.LoopGhost
import Derived.Deep.Light
import Derived.Deep.OwnRows
import Derived.Deep.DeepMust
namespace Go.Proofs.Qxb6000090a
open Go.RowKit

theorem Try.info3 : (Try.prog.info? 3).map (fun i => (i.zero, i.size, i.bytes)) = some (some (.int .i64 0), 1, 8) := by kernel_rfl
theorem Try.info22 : (Try.prog.info? 22).map (fun i => (i.zero, i.size, i.bytes)) = some (some (.int .u32 0), 1, 4) := by kernel_rfl

def BE (p : Bool → Prop) (e : Ending) : Prop := ∃ b : Bool, e = .returned (.bool b) ∧ p b
theorem BE.mk {p : Bool → Prop} (b : Bool) (h : p b) : BE p (.returned (.bool b)) := ⟨b, rfl, h⟩
def AnyB : Bool → Prop := fun _ => True

/-- A SLICE OF n NUMBERS. -/
structure RowV (w : World) (k : IntKind) (a : Option Addr) (b o n : Nat) (Z : Nat → Int) : Prop where
  ha : 0 < n → a = some ⟨b, o, none⟩
  cell : ∀ i, i < n → w.cell? ⟨b, o + i, none⟩ = some (.int k (Z i))

theorem RowV.below {w w' : World} {k : IntKind} {a : Option Addr} {b o n : Nat} {Z : Nat → Int} (h : RowV w k a b o n Z) (hb : Below w.heap.size w w') : RowV w' k a b o n Z :=
  ⟨h.ha, fun i hi => by rw [hb.cell (p := ⟨b, o + i, none⟩) (World.block_lt_of_cell? _ _ (h.cell i hi))]; exact h.cell i hi⟩

theorem RowV.ofRow {w : World} {k : IntKind} {b n t : Nat} {Z : Nat → Int} (h : w.rowIs b t n (fun i => .int k (Z i))) : RowV w k (some ⟨b, 0, none⟩) b 0 n Z :=
  ⟨fun _ => rfl, fun i hi => by rw [Nat.zero_add]; exact h.cell hi⟩

set_option maxHeartbeats 1000000 in
theorem bytes17 (a0 a1 a2 a3 a4 : Option Addr) (l0 l1 l2 l3 l4 c0 c1 c2 c3 c4 : Nat) (x m : Int) (w : World) (h0 : l0 ≤ 9223372036854775807) (h1 : l1 ≤ 9223372036854775807) (h2 : l2 ≤ 9223372036854775807) (h3 : l3 ≤ 9223372036854775807) (h4 : l4 ≤ 9223372036854775807) :
    Calls Try.prog 17 #[.slice a0 l0 c0, .slice a1 l1 c1, .slice a2 l2 c2, .slice a3 l3 c3, .slice a4 l4 c4, .int .i64 x, .int .u32 m] w fun e w' => BE AnyB e ∧ w' = w := by
  go_enter Try.func17, Try.ntmps17
  go_wp2
  all_goals
    go_ret
    exact ⟨BE.mk _ trivial, rfl⟩

set_option maxHeartbeats 1000000 in
theorem bytes23 (a0 a1 a2 a3 a4 : Option Addr) (l0 l1 l2 l3 l4 c0 c1 c2 c3 c4 : Nat) (x m : Int) (w : World) (h0 : l0 ≤ 9223372036854775807) (h1 : l1 ≤ 9223372036854775807) (h2 : l2 ≤ 9223372036854775807) (h3 : l3 ≤ 9223372036854775807) (h4 : l4 ≤ 9223372036854775807) :
    Calls Try.prog 23 #[.slice a0 l0 c0, .slice a1 l1 c1, .slice a2 l2 c2, .slice a3 l3 c3, .slice a4 l4 c4, .int .i64 x, .int .u32 m] w fun e w' => BE AnyB e ∧ w' = w := by
  go_enter Try.func23, Try.ntmps23
  go_wp2
  all_goals
    go_ret
    exact ⟨BE.mk _ trivial, rfl⟩


/-! ### zzCloneInts -/
structure ClInts (w wr : World) (n : Nat) (Z : Nat → Int) (c : Nat) : Prop where
  below : Below w.heap.size w wr
  size : wr.heap.size = w.heap.size + 1
  row : wr.rowIs w.heap.size 3 n (fun i => .int .i64 (if i < c then Z i else 0))

theorem clInts_start (w : World) (n : Nat) (Z : Nat → Int) : ClInts w (w.alloc (.cells (madeCells #[.int .i64 0] n) 3)) n Z 0 :=
  ⟨(Below.refl _ _).alloc (Nat.le_refl _) _, by simp, (World.rowIs_made w _ n 3).congr (fun v _ => by simp)⟩

theorem clInts_step {w wr : World} {n : Nat} {Z : Nat → Int} {c : Nat} (h : ClInts w wr n Z c) : ClInts w (wr.setCell ⟨w.heap.size, c, none⟩ (.int .i64 (Z c))) n Z (c + 1) :=
  ⟨h.below.setCell (Nat.le_refl _) _, by simp [World.setCell, h.size], (h.row.set c _).congr (fun i _ => by
    by_cases e : i = c
    · subst e; simp
    · rw [if_neg e]
      by_cases hlt : i < c
      · rw [if_pos hlt, if_pos (by omega)]
      · rw [if_neg hlt, if_neg (by omega)])⟩

set_option maxHeartbeats 1000000 in
theorem clone19 (b o n c : Nat) (Z : Nat → Int) (w : World) (hr : RowV w .i64 (some ⟨b, o, none⟩) b o n Z) (hn : n ≤ 1048576) :
    Calls Try.prog 19 #[.slice (some ⟨b, o, none⟩) n c] w fun e w' => e = .returned (.slice (some ⟨w.heap.size, 0, none⟩) n n) ∧ w'.rowIs w.heap.size 3 n (fun i => .int .i64 (Z i)) ∧ Below w.heap.size w w' ∧ w'.heap.size = w.heap.size + 1 := by
  have hnil := fun wx => Lib.run_eql_slice_nil (P := Try.prog) wx 36 3 (some ⟨b, o, none⟩) n c 0 0 Try.underlying36
  have hmk := run_make_row' (P := Try.prog) 36 3 (.int .i64 0) 8 Try.underlying36 Try.info3 rfl .i64 .i64 n (by omega) (by omega)
  have HR : Hid (RowV w .i64 (some ⟨b, o, none⟩) b o n Z) := hr
  clear hr
  go_enter Try.func19, Try.ntmps19
  go_wp2
  clear hmk hnil
  go_loopg [4] n (fun g i wr => ∃ j : Nat, j ≤ n ∧ g = n - j ∧ i = .int .i64 j ∧ ClInts w wr n Z j)
  case atStart => exact ⟨0, Nat.zero_le _, rfl, rfl, clInts_start w n Z⟩
  case round =>
    obtain ⟨j, hj, rfl, rfl, hC⟩ := hrel
    by_cases hlt : j < n
    · have hltz : (j : Int) < (n : Int) := by omega
      have hc := HR.out.cell j hlt
      have c1 : wr.cell? ⟨b, o + j, none⟩ = some (.int .i64 (Z j)) := by rw [hC.below.cell (p := ⟨b, o + j, none⟩) (World.block_lt_of_cell? _ _ hc)]; exact hc
      have c2 : wr.cell? ⟨w.heap.size, j, none⟩ = some (.int .i64 0) := by rw [hC.row.cell hlt]; simp
      have c3 : wr.frozen? ⟨w.heap.size, j, none⟩ = false := hC.row.frozen j
      have HN : Hid (ClInts w (wr.setCell ⟨w.heap.size, j, none⟩ (.int .i64 (Z j))) n Z (j + 1)) := clInts_step hC
      clear hC hc
      go_wp2
      go_roundg (n - (j + 1))
      case measure => go_light; omega
      case rel => go_light; exact ⟨j + 1, by omega, rfl, by go_num, HN.out⟩
    · have hltz : ¬ (j : Int) < (n : Int) := by omega
      obtain rfl : n = j := by omega
      have HN : Hid (wr.rowIs w.heap.size 3 n (fun i => .int .i64 (Z i)) ∧ Below w.heap.size w wr ∧ wr.heap.size = w.heap.size + 1) := ⟨hC.row.congr (fun i hi => by rw [if_pos hi]), hC.below, hC.size⟩
      clear hC
      go_wp2
      go_ret
      exact ⟨rfl, HN.out⟩

/-! ### zzCloneU32 -/
structure ClU32 (w wr : World) (n : Nat) (Z : Nat → Int) (c : Nat) : Prop where
  below : Below w.heap.size w wr
  size : wr.heap.size = w.heap.size + 1
  row : wr.rowIs w.heap.size 22 n (fun i => .int .u32 (if i < c then Z i else 0))

theorem clU32_start (w : World) (n : Nat) (Z : Nat → Int) : ClU32 w (w.alloc (.cells (madeCells #[.int .u32 0] n) 22)) n Z 0 :=
  ⟨(Below.refl _ _).alloc (Nat.le_refl _) _, by simp, (World.rowIs_made w _ n 22).congr (fun v _ => by simp)⟩

theorem clU32_step {w wr : World} {n : Nat} {Z : Nat → Int} {c : Nat} (h : ClU32 w wr n Z c) : ClU32 w (wr.setCell ⟨w.heap.size, c, none⟩ (.int .u32 (Z c))) n Z (c + 1) :=
  ⟨h.below.setCell (Nat.le_refl _) _, by simp [World.setCell, h.size], (h.row.set c _).congr (fun i _ => by
    by_cases e : i = c
    · subst e; simp
    · rw [if_neg e]
      by_cases hlt : i < c
      · rw [if_pos hlt, if_pos (by omega)]
      · rw [if_neg hlt, if_neg (by omega)])⟩

set_option maxHeartbeats 1000000 in
theorem clone20 (b o n c : Nat) (Z : Nat → Int) (w : World) (hr : RowV w .u32 (some ⟨b, o, none⟩) b o n Z) (hn : n ≤ 1048576) :
    Calls Try.prog 20 #[.slice (some ⟨b, o, none⟩) n c] w fun e w' => e = .returned (.slice (some ⟨w.heap.size, 0, none⟩) n n) ∧ w'.rowIs w.heap.size 22 n (fun i => .int .u32 (Z i)) ∧ Below w.heap.size w w' ∧ w'.heap.size = w.heap.size + 1 := by
  have hnil := fun wx => Lib.run_eql_slice_nil (P := Try.prog) wx 37 22 (some ⟨b, o, none⟩) n c 0 0 Try.underlying37
  have hmk := run_make_row' (P := Try.prog) 37 22 (.int .u32 0) 4 Try.underlying37 Try.info22 rfl .i64 .i64 n (by omega) (by omega)
  have HR : Hid (RowV w .u32 (some ⟨b, o, none⟩) b o n Z) := hr
  clear hr
  go_enter Try.func20, Try.ntmps20
  go_wp2
  clear hmk hnil
  go_loopg [4] n (fun g i wr => ∃ j : Nat, j ≤ n ∧ g = n - j ∧ i = .int .i64 j ∧ ClU32 w wr n Z j)
  case atStart => exact ⟨0, Nat.zero_le _, rfl, rfl, clU32_start w n Z⟩
  case round =>
    obtain ⟨j, hj, rfl, rfl, hC⟩ := hrel
    by_cases hlt : j < n
    · have hltz : (j : Int) < (n : Int) := by omega
      have hc := HR.out.cell j hlt
      have c1 : wr.cell? ⟨b, o + j, none⟩ = some (.int .u32 (Z j)) := by rw [hC.below.cell (p := ⟨b, o + j, none⟩) (World.block_lt_of_cell? _ _ hc)]; exact hc
      have c2 : wr.cell? ⟨w.heap.size, j, none⟩ = some (.int .u32 0) := by rw [hC.row.cell hlt]; simp
      have c3 : wr.frozen? ⟨w.heap.size, j, none⟩ = false := hC.row.frozen j
      have HN : Hid (ClU32 w (wr.setCell ⟨w.heap.size, j, none⟩ (.int .u32 (Z j))) n Z (j + 1)) := clU32_step hC
      clear hC hc
      go_wp2
      go_roundg (n - (j + 1))
      case measure => go_light; omega
      case rel => go_light; exact ⟨j + 1, by omega, rfl, by go_num, HN.out⟩
    · have hltz : ¬ (j : Int) < (n : Int) := by omega
      obtain rfl : n = j := by omega
      have HN : Hid (wr.rowIs w.heap.size 22 n (fun i => .int .u32 (Z i)) ∧ Below w.heap.size w wr ∧ wr.heap.size = w.heap.size + 1) := ⟨hC.row.congr (fun i hi => by rw [if_pos hi]), hC.below, hC.size⟩
      clear hC
      go_wp2
      go_ret
      exact ⟨rfl, HN.out⟩

/-! ### zzIsBelow -/
def Walkable (n : Nat) (par : Nat → Int) : Prop := ∀ i, i < n → par i = -1 ∨ ∃ p : Nat, par i = (p : Int) ∧ p < i
theorem walkable_of {n : Nat} {lv par en : Nat → Int} (T : Tr.Tree n lv par en) : Walkable n par := fun i hi => T.parLt i hi

set_option maxHeartbeats 1000000 in
theorem below24 (a : Option Addr) (b o n c : Nat) (par : Nat → Int) (j : Nat) (k : Int) (w : World) (hr : RowV w .i64 a b o n par) (hp : Walkable n par) (hj : j < n) (hn : n ≤ 1048576) :
    Calls Try.prog 24 #[.slice a n c, .int .i64 j, .int .i64 k] w fun e w' => e = .returned (.bool (Tr.below par (n + 1) j k)) ∧ w' = w := by
  obtain rfl := hr.ha (by omega)
  obtain ⟨B, hB⟩ : ∃ B, Tr.below par (n + 1) j k = B := ⟨_, rfl⟩
  have HB : Hid (Tr.below par (n + 1) j k = B) := hB
  rw [hB]
  have HR : Hid (RowV w .i64 (some ⟨b, o, none⟩) b o n par) := hr
  have HP : Hid (Walkable n par) := hp
  clear hr hp hB
  go_enter Try.func24, Try.ntmps24
  go_wp2
  go_loopg [7] (n + 1) (fun g i wr => wr = w ∧ ∃ q : Int, i = .int .i64 q ∧ (q = -1 ∨ ∃ p : Nat, q = (p : Int) ∧ p < n ∧ p < g) ∧ Tr.below par g q k = B)
  case atStart => exact ⟨rfl, j, rfl, Or.inr ⟨j, rfl, hj, by omega⟩, HB.out⟩
  case round =>
    obtain ⟨hw, q, rfl, hq, hb⟩ := hrel
    subst wr
    rcases hq with rfl | ⟨p, rfl, hpn, hpg⟩
    · rw [Tr.below_neg] at hb
      subst hb
      go_wp2
      go_ret
      exact ⟨rfl, rfl⟩
    · obtain ⟨f, rfl⟩ : ∃ f, gk = f + 1 := ⟨gk - 1, by omega⟩
      have hneg : ¬ ((p : Int) < 0) := by omega
      have hge : (0 : Int) ≤ (p : Int) := by omega
      have hpz : (p : Int) < (n : Int) := by omega
      simp only [Tr.below, hneg, if_false, Int.toNat_natCast] at hb
      by_cases e : (p : Int) = k
      · have ez : ((p : Int) == k) = true := by simp [e]
        simp only [e, if_true] at hb
        subst hb
        clear e
        go_wp2
        go_ret
        exact ⟨rfl, rfl⟩
      · have ez : ((p : Int) == k) = false := by simp [e]
        simp only [e, if_false] at hb
        have hc := HR.out.cell p hpn
        have HN : Hid (Tr.below par f (par p) k = B) := hb
        clear hb e
        go_wp2
        go_roundg f
        case measure => go_light; omega
        case rel =>
          go_light
          refine ⟨rfl, par p, rfl, ?_, HN.out⟩
          rcases HP.out p hpn with h | ⟨p', h, hlt⟩
          · exact Or.inl h
          · exact Or.inr ⟨p', h, by omega, by omega⟩

end Go.Proofs.Qxb6000090a
