/-
  NO GO HERE: the names in the order of their first call.
-/
import Derived.WalkKit
namespace Go.Proofs.Qxb6001663a

/-- The distinct names among the first k, in the order of their first place. -/
def firsts (nm : Nat → ByteArray) : Nat → List ByteArray
  | 0 => []
  | k + 1 => if (firsts nm k).any (fun x => decide (x.data = (nm k).data)) then firsts nm k else firsts nm k ++ [nm k]

theorem any_iff (x : ByteArray) (l : List ByteArray) : l.any (fun y => decide (y.data = x.data)) = true ↔ x ∈ l := by
  simp only [List.any_eq_true, decide_eq_true_eq]
  constructor
  · rintro ⟨y, hy, e⟩
    rwa [show x = y from ByteArray.ext e.symm]
  · intro h
    exact ⟨x, h, rfl⟩

theorem firsts_old {nm : Nat → ByteArray} {k : Nat} (h : nm k ∈ firsts nm k) : firsts nm (k + 1) = firsts nm k := by
  show (if _ then _ else _) = _
  rw [if_pos ((any_iff _ _).2 h)]
theorem firsts_new {nm : Nat → ByteArray} {k : Nat} (h : nm k ∉ firsts nm k) : firsts nm (k + 1) = firsts nm k ++ [nm k] := by
  show (if _ then _ else _) = _
  rw [if_neg (fun e => h ((any_iff _ _).1 e))]

theorem mem_firsts {nm : Nat → ByteArray} {x : ByteArray} : ∀ {k : Nat}, x ∈ firsts nm k ↔ ∃ j, j < k ∧ nm j = x
  | 0 => by simp [firsts]
  | k + 1 => by
    have ih := mem_firsts (nm := nm) (x := x) (k := k)
    constructor
    · intro h
      by_cases hk : nm k ∈ firsts nm k
      · rw [firsts_old hk, ih] at h
        obtain ⟨j, hj, e⟩ := h
        exact ⟨j, by omega, e⟩
      · rw [firsts_new hk, List.mem_append, ih] at h
        rcases h with ⟨j, hj, e⟩ | h
        · exact ⟨j, by omega, e⟩
        · exact ⟨k, by omega, (List.mem_singleton.1 h).symm⟩
    · rintro ⟨j, hj, e⟩
      by_cases hk : nm k ∈ firsts nm k
      · rw [firsts_old hk]
        by_cases e2 : j = k
        · subst e2; rw [← e]; exact hk
        · exact ih.2 ⟨j, by omega, e⟩
      · rw [firsts_new hk, List.mem_append]
        by_cases e2 : j = k
        · subst e2; right; simp [e]
        · left; exact ih.2 ⟨j, by omega, e⟩

theorem firsts_len (nm : Nat → ByteArray) : ∀ k, (firsts nm k).length ≤ k
  | 0 => by simp [firsts]
  | k + 1 => by
    have ih := firsts_len nm k
    by_cases hk : nm k ∈ firsts nm k
    · rw [firsts_old hk]; omega
    · rw [firsts_new hk]; simp; omega

theorem firsts_prefix (nm : Nat → ByteArray) (i : Nat) : ∀ d, firsts nm i <+: firsts nm (i + d)
  | 0 => List.prefix_refl _
  | d + 1 => by
    refine List.IsPrefix.trans (firsts_prefix nm i d) ?_
    show firsts nm (i + d) <+: firsts nm (i + d + 1)
    by_cases hk : nm (i + d) ∈ firsts nm (i + d)
    · rw [firsts_old hk]; exact List.prefix_refl _
    · rw [firsts_new hk]; exact List.prefix_append _ _

/-- A name that was not seen ahead of i stands at its place. -/
theorem firsts_at {nm : Nat → ByteArray} {i n : Nat} (hi : i < n) (h : nm i ∉ firsts nm i) : (firsts nm n)[(firsts nm i).length]? = some (nm i) := by
  have hp := firsts_prefix nm (i + 1) (n - (i + 1))
  rw [show i + 1 + (n - (i + 1)) = n by omega, firsts_new h] at hp
  obtain ⟨t, ht⟩ := hp
  rw [← ht]
  simp

end Go.Proofs.Qxb6001663a
