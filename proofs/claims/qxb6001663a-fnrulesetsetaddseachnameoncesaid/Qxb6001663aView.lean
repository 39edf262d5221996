/-
  A []string THAT CAME IN, AS THE WALKS WANT IT.
-/
import Derived.Test.Qxb6001663aZz
import Derived.ProofKit
import Derived.OpenShut
import Derived.Deep.Strs
namespace Go.Proofs.Qxb6001663a
open Go.ChangeShapes Go.WideShapes Go.ChangeAt Go.RowKit Go.Deep

theorem view {H : Type} {enc : TypeId × Value → H} {W : World} {a0 : Option Addr} {len cap : Nat} {d : DataW H} {p : List MemPlace} (h : DataW.Trod enc Try.prog W 0 (fun _ => true) true 28 (.slice a0 len cap) d p) :
    ∃ (gb go : Nat) (nm : Nat → ByteArray), SV W a0 gb go len nm := by
  obtain ⟨fuel, hf⟩ := h
  rcases open_strs Try.underlying28 Try.underlying9 (by kernel_rfl) hf with ⟨hcs, _⟩ | ⟨a, len', cap', m, Sx, hcs, _, hl, hm, hmm, _, hcell⟩
  · simp [Value.cells] at hcs
    obtain ⟨rfl, rfl, rfl⟩ := hcs
    exact ⟨0, 0, fun _ => ByteArray.empty, fun h => absurd h (Nat.lt_irrefl _), fun _ h => absurd h (Nat.not_lt_zero _), by omega, fun _ h => absurd h (Nat.not_lt_zero _)⟩
  simp [Value.cells] at hcs
  obtain ⟨rfl, rfl, rfl⟩ := hcs
  unfold maxLen at hm
  have hlm : len ≤ m := by rw [hmm]; split <;> omega
  obtain ⟨gb, go, gs⟩ := a
  refine ⟨gb, go, Sx, fun h0 => ?_, fun r hr => ?_, by omega, fun r hr => ?_⟩
  · have hgs : gs = none := by simpa [Addr.add] using World.cell?_spot (hcell 0 (by omega)).1
    rw [hgs]
  · have hgs : gs = none := by simpa [Addr.add] using World.cell?_spot (hcell 0 (by omega)).1
    subst hgs
    rw [← add_plain]; exact (hcell r (by omega)).1
  · have := (hcell r (by omega)).2
    unfold maxLen at this
    omega

end Go.Proofs.Qxb6001663a
