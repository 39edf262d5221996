/-
  PLAIN MATHEMATICS FOR FnValidMatchesSegmentModel: no Go, no program. A text of n bytes, byte i being 'c i'.
-/
namespace Go.Proofs.Qxb6000077a.Uu

def hex (c : Nat) : Prop := (48 ≤ c ∧ c ≤ 57) ∨ (97 ≤ c ∧ c ≤ 102)
def four (c : Nat) : Prop := c = 56 ∨ c = 57 ∨ c = 97 ∨ c = 98
def okAt (i c : Nat) : Prop :=
  ((i = 8 ∨ i = 13 ∨ i = 18 ∨ i = 23) → c = 45) ∧ (i = 14 → c = 55) ∧ (i = 19 → (c = 56 ∨ c = 57 ∨ c = 97 ∨ c = 98)) ∧
  ((i ≠ 8 ∧ i ≠ 13 ∧ i ≠ 18 ∧ i ≠ 23 ∧ i ≠ 14 ∧ i ≠ 19) → ((48 ≤ c ∧ c ≤ 57) ∨ (97 ≤ c ∧ c ≤ 102)))

/-- What Valid asks. -/
def VP (n : Nat) (c : Nat → Nat) : Prop := n = 36 ∧ ∀ i, i < 36 → okAt i (c i)

def sl (k : Nat) : Nat := if k = 0 then 8 else if k = 4 then 12 else 4
def off (k : Nat) : Nat := if k = 0 then 0 else if k = 1 then 9 else if k = 2 then 14 else if k = 3 then 19 else if k = 4 then 24 else 37

/-- What segmentOK asks of a piece. -/
def SegP (n : Nat) (c : Nat → Nat) (k : Nat) : Prop := n = sl k ∧ (∀ j, j < n → hex (c j)) ∧ (k = 2 → c 0 = 55) ∧ (k = 3 → four (c 0))

structure Seg (n : Nat) (c : Nat → Nat) (seg start i : Nat) : Prop where
  le5 : seg ≤ 5
  st : start = off seg
  le : start ≤ i
  ile : i ≤ n + 1
  fin : i = n + 1 → start = i
  ok : ∀ j, j < start → j < n → j < 36 → okAt j (c j)
  nod : ∀ j, start ≤ j → j < i → c j ≠ 45

variable {n : Nat} {c : Nat → Nat} {seg start i : Nat}

theorem seg_start : Seg n c 0 0 0 := ⟨by omega, rfl, by omega, by omega, by omega, fun j hj => by omega, fun j h1 h2 => by omega⟩

theorem seg_cont (h : Seg n c seg start i) (hi : i < n) (hc : c i ≠ 45) : Seg n c seg start (i + 1) :=
  ⟨h.le5, h.st, by have := h.le; omega, by omega, by omega, h.ok, fun j h1 h2 => by
    by_cases e : j = i
    · subst e; exact hc
    · exact h.nod j h1 (by omega)⟩

theorem seg_over (h : Seg n c seg start i) (hs : 4 < seg) (hi : i ≤ n) : ¬ VP n c := by
  rintro ⟨hn, _⟩
  have h5 : seg = 5 := by have := h.le5; omega
  have := h.st
  subst h5
  simp [off] at this
  have := h.le
  omega

theorem dash_stops {p : Nat} (h : Seg n c seg start i) (hp : start ≤ p) (hd : c p = 45) : i ≤ p := by
  rcases Nat.lt_or_ge p i with hlt | hge
  · exact absurd hd (h.nod p hp hlt)
  · exact hge

theorem ok_dash {k : Nat} (h : okAt k 45) : k = 8 ∨ k = 13 ∨ k = 18 ∨ k = 23 := by unfold okAt at h; omega

theorem seg_len (h : Seg n c seg start i) (hs : seg ≤ 4) (hi : i ≤ n) (hd : i < n → c i = 45) (hv : VP n c) : i - start = sl seg := by
  obtain ⟨hn, hok⟩ := hv
  subst hn
  have hst := h.st
  have hle := h.le
  have h1 : i < 36 → (i = 8 ∨ i = 13 ∨ i = 18 ∨ i = 23) := fun hi => ok_dash (by rw [← hd hi]; exact hok i hi)
  rcases (show seg = 0 ∨ seg = 1 ∨ seg = 2 ∨ seg = 3 ∨ seg = 4 by omega) with rfl | rfl | rfl | rfl | rfl <;> simp only [off, sl] at hst ⊢ <;> simp at hst ⊢
  · have h2 := dash_stops (p := 8) h (by omega) ((hok 8 (by omega)).1 (by simp))
    have := h1 (by omega); omega
  · have h2 := dash_stops (p := 13) h (by omega) ((hok 13 (by omega)).1 (by simp))
    have := h1 (by omega); omega
  · have h2 := dash_stops (p := 18) h (by omega) ((hok 18 (by omega)).1 (by simp))
    have := h1 (by omega); omega
  · have h2 := dash_stops (p := 23) h (by omega) ((hok 23 (by omega)).1 (by simp))
    have := h1 (by omega); omega
  · by_cases e : i < 36
    · have := h1 e; omega
    · omega

theorem seg_bad (h : Seg n c seg start i) (hs : seg ≤ 4) (hi : i ≤ n) (hd : i < n → c i = 45) (hb : ¬ SegP (i - start) (fun j => c (start + j)) seg) : ¬ VP n c := by
  intro hv
  have hl := seg_len h hs hi hd hv
  apply hb
  obtain ⟨hn, hok⟩ := hv
  have hle := h.le
  refine ⟨hl, fun j hj => ?_, fun h2 => ?_, fun h3 => ?_⟩
  · have h1 := hok (start + j) (by omega)
    have h2 := h.nod (start + j) (by omega) (by omega)
    show hex (c (start + j))
    unfold hex
    unfold okAt at h1
    generalize c (start + j) = x at *
    generalize start + j = y at *
    omega
  · have hst := h.st
    subst h2
    simp [off] at hst
    subst hst
    exact (hok 14 (by omega)).2.1 rfl
  · have hst := h.st
    subst h3
    simp [off] at hst
    subst hst
    exact (hok 19 (by omega)).2.2.1 rfl

theorem seg_good (h : Seg n c seg start i) (hs : seg ≤ 4) (hi : i ≤ n) (hd : i < n → c i = 45) (hb : SegP (i - start) (fun j => c (start + j)) seg) : Seg n c (seg + 1) (i + 1) (i + 1) := by
  obtain ⟨hl, hx, h2, h3⟩ := hb
  have hle := h.le
  have hst := h.st
  have hoff : i + 1 = off (seg + 1) := by
    rcases (show seg = 0 ∨ seg = 1 ∨ seg = 2 ∨ seg = 3 ∨ seg = 4 by omega) with rfl | rfl | rfl | rfl | rfl <;> simp [off, sl] at hst hl ⊢ <;> omega
  refine ⟨by omega, hoff, Nat.le_refl _, by omega, fun _ => rfl, fun j hj hjn hj36 => ?_, fun j h4 h5 => by omega⟩
  by_cases hjs : j < start
  · exact h.ok j hjs hjn hj36
  · by_cases hji : j = i
    · subst hji
      have := hd hjn
      rcases (show seg = 0 ∨ seg = 1 ∨ seg = 2 ∨ seg = 3 ∨ seg = 4 by omega) with rfl | rfl | rfl | rfl | rfl <;> simp [off] at hoff <;> simp only [okAt] <;> omega
    · have hxj := hx (j - start) (by omega)
      simp only [show start + (j - start) = j by omega] at hxj
      unfold hex at hxj
      rcases (show seg = 0 ∨ seg = 1 ∨ seg = 2 ∨ seg = 3 ∨ seg = 4 by omega) with rfl | rfl | rfl | rfl | rfl
      · simp [off] at hoff hst; simp only [okAt]; omega
      · simp [off] at hoff hst; simp only [okAt]; omega
      · simp [off] at hoff hst
        have h14 := h2 rfl
        by_cases e : j = 14
        · subst e; subst hst
          simp at h14
          simp only [okAt]; omega
        · simp only [okAt]; omega
      · simp [off] at hoff hst
        have h19 := h3 rfl
        unfold four at h19
        by_cases e : j = 19
        · subst e; subst hst
          simp at h19
          simp only [okAt]; omega
        · simp only [okAt]; omega
      · simp [off] at hoff hst; simp only [okAt]; omega

theorem seg_end (h : Seg n c seg start (n + 1)) : seg = 5 ↔ VP n c := by
  have hf := h.fin rfl
  have hst := h.st
  have hle := h.le5
  constructor
  · rintro rfl
    simp [off] at hst
    have hn : n = 36 := by omega
    subst hn
    exact ⟨rfl, fun j hj => h.ok j (by omega) hj hj⟩
  · rintro ⟨hn, _⟩
    rcases (show seg = 0 ∨ seg = 1 ∨ seg = 2 ∨ seg = 3 ∨ seg = 4 ∨ seg = 5 by omega) with rfl | rfl | rfl | rfl | rfl | rfl <;> simp [off] at hst <;> omega

end Go.Proofs.Qxb6000077a.Uu
