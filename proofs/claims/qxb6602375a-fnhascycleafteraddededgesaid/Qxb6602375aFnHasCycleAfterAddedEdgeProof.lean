/-
  THE ROW OF FnHasCycleAfterAddedEdge: the argument opened at every row ('open_int_rows'), the walk 'law_any', the argument read again ('Below.trod').
-/
import Derived.Test.Qxb6602375aRows
import Derived.Test.Qxb6602375aLaw
import Derived.ProofKit
import Derived.OpenShut
import Derived.ChangeOld
import Derived.Deep.Matrix
namespace Go.Proofs.Qxb6602375a.fnHasCycleAfterAddedEdge
open Go.ChangeShapes Go.WideShapes Go.ChangeAt Go.RowKit Go.Deep

theorem own : ownKnob Try.prog.godebug = none := by kernel_rfl
theorem laidOut : laidOutB Try.prog = true := by kernel_rfl

/-- A [][]int that came in, as the walk wants it. -/
theorem view {H : Type} {enc : TypeId × Value → H} {W : World} {a0 : Option Addr} {len cap : Nat} {d : DataW H} {p : List MemPlace} (h : DataW.Trod enc Try.prog W 0 (fun _ => true) true 22 (.slice a0 len cap) d p) :
    ∃ (gb go : Nat) (A : Nat → Option Addr) (L C RB RO : Nat → Nat) (Z : Nat → Nat → Int), GV W a0 gb go len A L C RB RO Z := by
  obtain ⟨fuel, hf⟩ := h
  rcases open_int_rows Try.underlying22 Try.underlying24 Try.underlying3 (by kernel_rfl) (by kernel_rfl) hf with ⟨hcs, _⟩ | ⟨a, len', cap', A, L, C, Z, hcs, _, hl, hm, _, hrows⟩
  · simp [Value.cells] at hcs
    obtain ⟨rfl, rfl, rfl⟩ := hcs
    exact ⟨0, 0, fun _ => none, fun _ => 0, fun _ => 0, fun _ => 0, fun _ => 0, fun _ _ => 0, fun h => absurd h (Nat.lt_irrefl _), fun _ h => absurd h (Nat.not_lt_zero _), fun _ h => absurd h (Nat.not_lt_zero _), by omega, fun _ h => absurd h (Nat.not_lt_zero _)⟩
  simp [Value.cells] at hcs
  obtain ⟨rfl, rfl, rfl⟩ := hcs
  unfold maxLen at hm
  obtain ⟨gb, go, gs⟩ := a
  refine ⟨gb, go, A, L, C, fun r => ((A r).getD default).block, fun r => ((A r).getD default).off, fun r c => (Z r).getD c 0, fun h0 => ?_, fun r hr => ?_, fun r hr c hc => ?_, by omega, fun r hr => ?_⟩
  · have hgs : gs = none := by simpa [Addr.add] using World.cell?_spot (hrows 0 (by omega)).1
    rw [hgs]
  · have hgs : gs = none := by simpa [Addr.add] using World.cell?_spot (hrows 0 (by omega)).1
    subst hgs
    rw [← add_plain]; exact (hrows r (by omega)).1
  · obtain ⟨_, h1, _, h2, _, h3, h4⟩ := hrows r (by omega)
    cases hA : A r with
    | none => have := h3 hA; omega
    | some a' =>
      obtain ⟨ab, ao, asp⟩ := a'
      obtain ⟨_, hcell⟩ := h4 _ hA
      have has : asp = none := by simpa [Addr.add] using World.cell?_spot (hcell 0 (by omega))
      subst has
      exact ⟨rfl, by have := hcell c (by omega); rwa [add_plain] at this⟩
  · obtain ⟨_, h1, h2, _⟩ := hrows r (by omega)
    unfold maxLen at h2
    omega

set_option maxRecDepth 100000 in
theorem lifted (os : Os) (started : os.Started) (H : Type) (enc : TypeId × Value → H) :
    ReturnsInHanded {} Try.checked os 5 .any (Rows.fnHasCycleAfterAddedEdgeSpec.pre6 enc Try.prog Try.f5 Rows.fnHasCycleAfterAddedEdgeRow.domain false) (Rows.fnHasCycleAfterAddedEdgeSpec.post enc Try.prog Try.f5 false true false false) := by
  refine returnsInHanded_of_change (C := Try.checked) own started (by kernel_rfl) Try.func5
    (ChangeSpec.witness6 (enc := enc) (C := Try.checked) false ⟨#[], #[.slice none 0 0, .int .i64 0, .int .i64 0], []⟩ 8 (by kernel_rfl) (by kernel_rfl) (by kernel_rfl) (by kernel_rfl)) ?_
  intro W base args ds gs before hval0 hW hcnd _
  have hval : ∀ (j : Nat) t v, Try.f5.params[j]? = some t → args[j]? = some v → Value.okWide Try.prog W .any base t v := hval0
  have hW' := hW
  obtain ⟨p, q, hA0, hV, rfl, hfz, hnd⟩ := hW
  have hA : DataW.TrodAll enc Try.prog W 0 (fun _ => true) true Try.f5.params.toList args.toList ds p := hA0
  rw [Try.params5] at hA hval
  obtain ⟨v0, vs0, d0, ds0, p0, q0, hargs, rfl, rfl, h0, r0⟩ := trodAll_cons hA
  obtain ⟨v1, vs1, d1, ds1, p1, q1, rfl, rfl, rfl, h1, r1⟩ := trodAll_cons r0
  obtain ⟨v2, vs2, d2, ds2, p2, q2, rfl, rfl, rfl, h2, r2⟩ := trodAll_cons r1
  obtain ⟨rfl, rfl, rfl⟩ := trodAll_nil r2
  obtain rfl : args = #[v0, v1, v2] := by cases args; simp_all
  obtain ⟨rfl, rfl⟩ := trodVars_none hV
  obtain ⟨a0, len0, cap0, rfl⟩ := okWide_slice Try.underlying22 (hval 0 22 v0 rfl rfl)
  have k0 := h0
  have lt0 : ∀ x ∈ p0, x.block < W.heap.size := by obtain ⟨m, hm⟩ := k0; exact DataW.trod_lt m _ _ _ hm
  obtain ⟨gb, go, A, L, C, RB, RO, Z, hg⟩ := view h0
  obtain ⟨x, rfl, rfl, rfl, w1⟩ := open_int Try.underlying3 (hval 1 3 v1 rfl rfl) h1
  obtain ⟨y, rfl, rfl, rfl, w2⟩ := open_int Try.underlying3 (hval 2 3 v2 rfl rfl) h2
  clear hA0 hval0
  refine (law_any a0 gb go len0 cap0 A L C RB RO Z x y W hg).mono fun e W' ⟨he, bel⟩ => ?_
  subst he
  exact ⟨_, rfl, _, _, _, [], _, [], hW', trodAll_mk1 (shut_bool Try.underlying4 _), (trodAll_cons_mk (Below.trod laidOut (by kernel_rfl) (of_decide_eq_true (by kernel_rfl)) k0 bel lt0) (trodAll_cons_mk (shut_int Try.underlying3 w1) (trodAll_cons_mk (shut_int Try.underlying3 w2) trodAll_mk0))), rfl, bel.frame _, fun h => by cases h⟩

theorem over : Rows.fnHasCycleAfterAddedEdgeRow.holds Try.pinned (OpenSpec.ofChange Rows.fnHasCycleAfterAddedEdgeSpec) :=
  OpenClaim.holds_of_wide 5 Try.f5 rfl rfl rfl rfl rfl rfl rfl ⟨rfl, rfl, rfl, rfl, rfl⟩ rfl rfl rfl rfl rfl (by kernel_rfl) Try.func5 (by kernel_rfl)
    (of_decide_eq_true (by kernel_rfl)) (by unfold Func.isWrapper; first | (rw [if_pos (by decide +kernel)]; kernel_rfl) | (rw [if_neg (by decide +kernel)]; exact ⟨rfl, rfl⟩))
    (fun os started H enc _ => lifted os started H enc)

/-- THE STATEMENT -/
theorem proved : Rows.FnHasCycleAfterAddedEdgeSaid := over
#print axioms proved
end Go.Proofs.Qxb6602375a.fnHasCycleAfterAddedEdge
