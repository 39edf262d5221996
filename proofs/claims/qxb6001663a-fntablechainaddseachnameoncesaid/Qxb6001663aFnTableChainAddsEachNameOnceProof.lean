/-
  THE ROW OF FnTableChainAddsEachNameOnce: the argument opened at every name ('view'), the walk 'lawT_any', the argument read again ('Below.trod').
-/
import Derived.Test.Qxb6001663aRows
import Derived.Test.Qxb6001663aLawT
import Derived.Test.Qxb6001663aView
import Derived.Test.Qxb6001663aWords
import Derived.ProofKit
import Derived.OpenShut
import Derived.ShutString
import Derived.ChangeOld
namespace Go.Proofs.Qxb6001663a.fnTableChainAddsEachNameOnce
open Go.ChangeShapes Go.WideShapes Go.ChangeAt Go.RowKit Go.Deep
open Go.ChangeMaps (open_string shut_string)

theorem own : ownKnob Try.prog.godebug = none := by kernel_rfl
theorem laidOut : laidOutB Try.prog = true := by kernel_rfl

set_option maxRecDepth 100000 in
theorem lifted (os : Os) (started : os.Started) (H : Type) (enc : TypeId × Value → H) :
    ReturnsInHanded {} Try.checked os 4 .any (Rows.fnTableChainAddsEachNameOnceSpec.pre6 enc Try.prog Try.f4 Rows.fnTableChainAddsEachNameOnceRow.domain false) (Rows.fnTableChainAddsEachNameOnceSpec.post enc Try.prog Try.f4 false true false false) := by
  refine returnsInHanded_of_change (C := Try.checked) own started (by kernel_rfl) Try.func4
    (ChangeSpec.witness6 (enc := enc) (C := Try.checked) false ⟨#[], #[.slice none 0 0, .string ByteArray.empty], []⟩ 8 (by kernel_rfl) (by kernel_rfl) (by kernel_rfl) (by kernel_rfl)) ?_
  intro W base args ds gs before hval0 hW hcnd _
  have hval : ∀ (j : Nat) t v, Try.f4.params[j]? = some t → args[j]? = some v → Value.okWide Try.prog W .any base t v := hval0
  have hW' := hW
  obtain ⟨p, q, hA0, hV, rfl, hfz, hnd⟩ := hW
  have hA : DataW.TrodAll enc Try.prog W 0 (fun _ => true) true Try.f4.params.toList args.toList ds p := hA0
  rw [Try.params4] at hA hval
  obtain ⟨v0, vs0, d0, ds0, p0, q0, hargs, rfl, rfl, h0, r0⟩ := trodAll_cons hA
  obtain ⟨v1, vs1, d1, ds1, p1, q1, rfl, rfl, rfl, h1, r1⟩ := trodAll_cons r0
  obtain ⟨rfl, rfl, rfl⟩ := trodAll_nil r1
  obtain rfl : args = #[v0, v1] := by cases args; simp_all
  obtain ⟨rfl, rfl⟩ := trodVars_none hV
  obtain ⟨a0, len0, cap0, rfl⟩ := okWide_slice Try.underlying28 (hval 0 28 v0 rfl rfl)
  have k0 := h0
  have lt0 : ∀ x ∈ p0, x.block < W.heap.size := by obtain ⟨m, hm⟩ := k0; exact DataW.trod_lt m _ _ _ hm
  obtain ⟨gb, go, nm, hg⟩ := view h0
  obtain ⟨s, rfl, rfl, rfl, w1⟩ := open_string Try.underlying9 (hval 1 9 v1 rfl rfl) h1
  clear hA0 hval0
  refine (lawT_any a0 gb go len0 cap0 nm s W hg (by unfold maxLen at w1; omega)).mono fun e W' ⟨he, bel⟩ => ?_
  subst he
  exact ⟨_, rfl, _, _, _, [], _, [], hW', trodAll_mk1 (shut_bool Try.underlying4 _), (trodAll_cons_mk (Below.trod laidOut (by kernel_rfl) (of_decide_eq_true (by kernel_rfl)) k0 bel lt0) (trodAll_cons_mk (shut_string Try.underlying9 w1) trodAll_mk0)), rfl, bel.frame _, fun h => by cases h⟩

theorem and2 {a b : Bool} (ha : a = true) (hb : b = true) : (a && b) = true := by rw [ha, hb]; rfl
theorem named : Try.pinned.checked.prog.funcNamed Rows.fnTableChainAddsEachNameOnceRow.func = some 4 := by kernel_rfl
set_option maxHeartbeats 4000000 in
theorem closed : joinedFacts Try.prog 4 Try.f4 Rows.fnTableChainAddsEachNameOnceSpec Rows.fnTableChainAddsEachNameOnceRow = true := by
  unfold joinedFacts
  repeat' (with_reducible refine and2 ?_ ?_)
  · as_aux_lemma => kernel_rfl
  · as_aux_lemma => kernel_rfl
  · as_aux_lemma => kernel_rfl
  · as_aux_lemma => kernel_rfl
  · as_aux_lemma => kernel_rfl
  · as_aux_lemma => kernel_rfl
  · as_aux_lemma => kernel_rfl
  · as_aux_lemma => kernel_rfl
  · as_aux_lemma => kernel_rfl
  · as_aux_lemma => kernel_rfl
  · as_aux_lemma => kernel_rfl
  · as_aux_lemma => kernel_rfl
  · as_aux_lemma => kernel_rfl
  · as_aux_lemma => kernel_rfl
  · as_aux_lemma => kernel_rfl
  · as_aux_lemma => kernel_rfl
  · as_aux_lemma => kernel_rfl
  · as_aux_lemma => kernel_rfl
  · as_aux_lemma => kernel_rfl
  · as_aux_lemma => kernel_rfl
  · as_aux_lemma => kernel_rfl
  · as_aux_lemma => kernel_rfl
  · as_aux_lemma => kernel_rfl
  · as_aux_lemma => kernel_rfl
  · as_aux_lemma => kernel_rfl
  · exact enters
  · rw [lifts]; kernel_rfl
  · rw [made]; kernel_rfl
  · as_aux_lemma => kernel_rfl
  · as_aux_lemma => kernel_rfl
  · as_aux_lemma => kernel_rfl
  · as_aux_lemma => kernel_rfl
theorem inst : Try.f4.isInstance Try.pinned.checked.prog Rows.fnTableChainAddsEachNameOnceRow.origin Rows.fnTableChainAddsEachNameOnceRow.targs := of_decide_eq_true (by kernel_rfl)
theorem wrap : Try.f4.isWrapper Try.pinned.checked.prog Rows.fnTableChainAddsEachNameOnceRow.wrapper Rows.fnTableChainAddsEachNameOnceRow.mainSum := by
  unfold Func.isWrapper; first | (rw [if_pos (by decide +kernel)]; kernel_rfl) | (rw [if_neg (by decide +kernel)]; exact ⟨rfl, rfl⟩)
theorem over : Rows.fnTableChainAddsEachNameOnceRow.holds Try.pinned (OpenSpec.ofChange Rows.fnTableChainAddsEachNameOnceSpec) :=
  OpenClaim.holds_of_wide 4 Try.f4 rfl rfl rfl rfl rfl rfl rfl ⟨rfl, rfl, rfl, rfl, rfl⟩ rfl rfl rfl rfl rfl named Try.func4 closed inst wrap
    (fun os started H enc _ => lifted os started H enc)

/-- THE STATEMENT -/
theorem proved : Rows.FnTableChainAddsEachNameOnceSaid := over
#print axioms proved
end Go.Proofs.Qxb6001663a.fnTableChainAddsEachNameOnce
