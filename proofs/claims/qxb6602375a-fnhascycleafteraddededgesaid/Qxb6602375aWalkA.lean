/-
  THE WALKS OF THE FUNCTIONS THAT ONLY READ: zzBytes_FnHasCycleAfterAddedEdge (14), graphTooBig (9), headsInRange (10).
-/
import Derived.Test.Qxb6602375aProg
import Derived.Test.Qxb6602375aPlain
import Derived.WalkKit
import Derived.Deep.LoopGhost
import Derived.Deep.Light
namespace Go.Proofs.Qxb6602375a
open Go.RowKit

/-- A [][]int AS IT LIES IN A WORLD: n rows, row r at 'A r' with length 'L r', its numbers 'Z r c'. -/
structure GV (w : World) (ga : Option Addr) (gb go n : Nat) (A : Nat → Option Addr) (L C RB RO : Nat → Nat) (Z : Nat → Nat → Int) : Prop where
  hga : 0 < n → ga = some ⟨gb, go, none⟩
  row : ∀ r, r < n → w.cell? ⟨gb, go + r, none⟩ = some (.slice (A r) (L r) (C r))
  cell : ∀ r, r < n → ∀ c, c < L r → A r = some ⟨RB r, RO r, none⟩ ∧ w.cell? ⟨RB r, RO r + c, none⟩ = some (.int .i64 (Z r c))
  nb : n ≤ 9223372036854775807
  lb : ∀ r, r < n → L r ≤ 9223372036854775807

theorem GV.below {w w' : World} {ga : Option Addr} {gb go n : Nat} {A : Nat → Option Addr} {L C RB RO : Nat → Nat} {Z : Nat → Nat → Int} (h : GV w ga gb go n A L C RB RO Z) (hb : Below w.heap.size w w') : GV w' ga gb go n A L C RB RO Z :=
  ⟨h.hga, fun r hr => by rw [hb.cell (p := ⟨gb, go + r, none⟩) (World.block_lt_of_cell? _ _ (h.row r hr))]; exact h.row r hr,
    fun r hr c hc => ⟨(h.cell r hr c hc).1, by rw [hb.cell (p := ⟨RB r, RO r + c, none⟩) (World.block_lt_of_cell? _ _ (h.cell r hr c hc).2)]; exact (h.cell r hr c hc).2⟩, h.nb, h.lb⟩

/-- An ending that hands back SOME bool, of which p holds. (A name, so that the walk's simp does not take the 'exists' apart.) -/
def BE (p : Bool → Prop) (e : Ending) : Prop := ∃ b : Bool, e = .returned (.bool b) ∧ p b
theorem BE.mk {p : Bool → Prop} (b : Bool) (h : p b) : BE p (.returned (.bool b)) := ⟨b, rfl, h⟩
def AnyB : Bool → Prop := fun _ => True

set_option maxHeartbeats 1000000 in
theorem bytes_any (ga : Option Addr) (gb go n Gc : Nat) (A : Nat → Option Addr) (L C RB RO : Nat → Nat) (Z : Nat → Nat → Int) (x y : Int) (w : World) (hg : GV w ga gb go n A L C RB RO Z) :
    Calls Try.prog 14 #[.slice ga n Gc, .int .i64 x, .int .i64 y] w fun e w' => BE AnyB e ∧ w' = w := by
  have hnb := hg.nb
  by_cases hn : (n : Int) ≤ 1048576
  · go_enter Try.func14, Try.ntmps14
    go_wp2
    go_loop [7, 8] (fun t i => ∃ (k : Nat) (z : Int), k ≤ n ∧ i = .int .i64 k ∧ t = .int .i64 z ∧ 0 ≤ z ∧ z ≤ 1048576) (fun _ i => n - (intOf i).toNat)
    case atStart => exact ⟨0, n, Nat.zero_le _, rfl, rfl, by omega, by omega⟩
    case round =>
      obtain ⟨k, z, hk, rfl, rfl, hz0, hz1⟩ := hrel
      by_cases hlt : k < n
      · obtain rfl := hg.hga (by omega)
        have hrow := hg.row k hlt
        have hlb := hg.lb k hlt
        have hltz : (k : Int) < (n : Int) := by omega
        clear hg
        by_cases hL : (L k : Int) ≤ 1048576
        · by_cases hs : z + (L k : Int) ≤ 1048576
          · go_wp2
            go_round
            case rel => exact ⟨k + 1, z + (L k : Int), by omega, by go_num, rfl, by omega, by omega⟩
            case measure => simp [intOf]; omega
          · go_wp2
            go_ret
            exact ⟨BE.mk false trivial, rfl⟩
        · go_wp2
          go_ret
          exact ⟨BE.mk false trivial, rfl⟩
      · have hltz : ¬ (k : Int) < (n : Int) := by omega
        go_wp2
        go_ret
        exact ⟨BE.mk true trivial, rfl⟩
  · go_enter Try.func14, Try.ntmps14
    go_wp2
    go_ret
    exact ⟨BE.mk false trivial, rfl⟩


/-- What 'not too big' says. -/
def Small (n : Nat) (L : Nat → Nat) : Bool → Prop := fun b => b = false → 24 * n + 8 * Gr.sumTo n L ≤ 1048576

theorem small_no {n : Nat} {L : Nat → Nat} : Small n L true := fun h => by cases h

set_option maxHeartbeats 1000000 in
theorem big_any (ga : Option Addr) (gb go n Gc : Nat) (A : Nat → Option Addr) (L C RB RO : Nat → Nat) (Z : Nat → Nat → Int) (w : World) (hg : GV w ga gb go n A L C RB RO Z) :
    Calls Try.prog 9 #[.slice ga n Gc] w fun e w' => BE (Small n L) e ∧ w' = w := by
  have hnb := hg.nb
  by_cases hn : (n : Int) ≤ 131072
  · by_cases hn2 : 24 * (n : Int) ≤ 1048576
    · go_enter Try.func9, Try.ntmps9
      go_wp2
      go_loop [3, 4] (fun t i => ∃ (k : Nat), k ≤ n ∧ i = .int .i64 k ∧ t = .int .i64 (24 * (n : Int) + 8 * (Gr.sumTo k L : Nat)) ∧ 24 * n + 8 * Gr.sumTo k L ≤ 1048576) (fun _ i => n - (intOf i).toNat)
      case atStart => exact ⟨0, Nat.zero_le _, rfl, by simp [Gr.sumTo], by simp [Gr.sumTo]; omega⟩
      case round =>
        obtain ⟨k, hk, rfl, rfl, hz1⟩ := hrel
        have hsucc : Gr.sumTo (k + 1) L = Gr.sumTo k L + L k := rfl
        have HS : Hid (Gr.sumTo (k + 1) L = Gr.sumTo k L + L k) := hsucc
        clear hsucc
        generalize hq : Gr.sumTo k L = q at *
        have HQ : Hid (Gr.sumTo k L = q) := hq
        clear hq
        by_cases hlt : k < n
        · obtain rfl := hg.hga (by omega)
          have hrow := hg.row k hlt
          have hlb := hg.lb k hlt
          have hltz : (k : Int) < (n : Int) := by omega
          clear hg
          by_cases hL : (L k : Int) ≤ 131072
          · by_cases hs : 24 * (n : Int) + 8 * (q : Int) + 8 * (L k : Int) ≤ 1048576
            · go_wp2
              go_round
              case rel => exact ⟨k + 1, by omega, by go_num, by rw [HS.out]; go_num, by rw [HS.out]; omega⟩
              case measure => simp [intOf]; omega
            · go_wp2
              go_ret
              exact ⟨BE.mk true small_no, rfl⟩
          · go_wp2
            go_ret
            exact ⟨BE.mk true small_no, rfl⟩
        · have hltz : ¬ (k : Int) < (n : Int) := by omega
          go_wp2
          go_ret
          obtain rfl : k = n := by omega
          exact ⟨BE.mk false (fun _ => by rw [HQ.out]; omega), rfl⟩
    · go_enter Try.func9, Try.ntmps9
      go_wp2
      go_ret
      exact ⟨BE.mk true small_no, rfl⟩
  · go_enter Try.func9, Try.ntmps9
    go_wp2
    go_ret
    exact ⟨BE.mk true small_no, rfl⟩


/-- The first k rows' heads are nodes. -/
def InTo (n : Nat) (L : Nat → Nat) (Z : Nat → Nat → Int) (k : Nat) : Prop := ∀ r, r < k → ∀ c, c < L r → 0 ≤ Z r c ∧ Z r c < (n : Int)
def InR (n : Nat) (L : Nat → Nat) (Z : Nat → Nat → Int) : Bool → Prop := fun b => b = true → InTo n L Z n
def InRow (n : Nat) (Z : Nat → Nat → Int) (r k : Nat) : Prop := ∀ c, c < k → 0 ≤ Z r c ∧ Z r c < (n : Int)

theorem inr_no {n : Nat} {L : Nat → Nat} {Z : Nat → Nat → Int} : InR n L Z false := fun h => by cases h
theorem inrow_succ {n : Nat} {Z : Nat → Nat → Int} {r k : Nat} (h : InRow n Z r k) (h0 : 0 ≤ Z r k) (h1 : Z r k < (n : Int)) : InRow n Z r (k + 1) := fun c hc => by
  by_cases e : c = k
  · subst e; exact ⟨h0, h1⟩
  · exact h c (by omega)
theorem into_succ {n : Nat} {L : Nat → Nat} {Z : Nat → Nat → Int} {k : Nat} (h : InTo n L Z k) (h1 : InRow n Z k (L k)) : InTo n L Z (k + 1) := fun r hr => by
  by_cases e : r = k
  · subst e; exact h1
  · exact h r (by omega)

set_option maxHeartbeats 1000000 in
theorem heads_any (ga : Option Addr) (gb go n Gc : Nat) (A : Nat → Option Addr) (L C RB RO : Nat → Nat) (Z : Nat → Nat → Int) (w : World) (hg : GV w ga gb go n A L C RB RO Z) :
    Calls Try.prog 10 #[.slice ga n Gc] w fun e w' => BE (InR n L Z) e ∧ w' = w := by
  have hnb := hg.nb
  go_enter Try.func10, Try.ntmps10
  go_wp2
  go_loop [3] (fun i => ∃ k : Nat, k ≤ n ∧ i = .int .i64 k ∧ InTo n L Z k) (fun i => n - (intOf i).toNat)
  case atStart => exact ⟨0, Nat.zero_le _, rfl, fun r hr => absurd hr (Nat.not_lt_zero _)⟩
  case round =>
    obtain ⟨k, hk, rfl, hin⟩ := hrel
    by_cases hlt : k < n
    · obtain rfl := hg.hga (by omega)
      have hrow := hg.row k hlt
      have hlb := hg.lb k hlt
      have hcell := hg.cell k hlt
      have hltz : (k : Int) < (n : Int) := by omega
      clear hg
      go_wp2
      go_loop [4] (fun i => ∃ c : Nat, c ≤ L k ∧ i = .int .i64 c ∧ InRow n Z k c) (fun i => L k - (intOf i).toNat)
      case atStart => exact ⟨0, Nat.zero_le _, rfl, fun r hr => absurd hr (Nat.not_lt_zero _)⟩
      case round =>
        obtain ⟨c, hc, rfl, hir⟩ := hrel
        by_cases hcl : c < L k
        · have hclz : (c : Int) < (L k : Int) := by omega
          obtain ⟨hAk, hce⟩ := hcell c hcl
          rw [hAk] at hrow
          clear hcell hAk
          by_cases hz0 : Z k c < 0
          · go_wp2
            go_ret
            exact ⟨BE.mk false inr_no, rfl⟩
          · have hz0' : decide (Z k c < 0) = false := by simpa using hz0
            by_cases hz1 : Z k c < (n : Int)
            · go_wp2
              go_round
              case rel => exact ⟨c + 1, by omega, by go_num, inrow_succ hir (by omega) hz1⟩
              case measure => simp [intOf]; omega
            · go_wp2
              go_ret
              exact ⟨BE.mk false inr_no, rfl⟩
        · have hclz : ¬ (c : Int) < (L k : Int) := by omega
          clear hcell
          go_wp2
          go_round
          case rel => exact ⟨k + 1, by omega, by go_num, into_succ hin (by rwa [show c = L k by omega] at hir)⟩
          case measure => simp [intOf]; omega
    · have hltz : ¬ (k : Int) < (n : Int) := by omega
      clear hg
      go_wp2
      go_ret
      exact ⟨BE.mk true (fun _ => by rwa [show k = n by omega] at hin), rfl⟩

end Go.Proofs.Qxb6602375a
