/-
  PLAIN MATHEMATICS FOR FnHasCycleAfterAddedEdge: no Go, no program. A graph is a function from node to the list of its heads.
-/
namespace Go.Proofs.Qxb6602375a.Gr

def sumTo : Nat → (Nat → Nat) → Nat
  | 0, _ => 0
  | n + 1, f => sumTo n f + f n

theorem sumTo_congr {n : Nat} {f g : Nat → Nat} (h : ∀ u, u < n → f u = g u) : sumTo n f = sumTo n g := by
  induction n with
  | zero => rfl
  | succ n ih => simp only [sumTo]; rw [ih (fun u hu => h u (by omega)), h n (by omega)]

theorem sumTo_at {n : Nat} {f g : Nat → Nat} {x c : Nat} (hx : x < n) (hf : f x = g x + c) (h : ∀ u, u < n → u ≠ x → f u = g u) : sumTo n f = sumTo n g + c := by
  induction n with
  | zero => omega
  | succ n ih =>
    simp only [sumTo]
    by_cases e : x = n
    · subst e
      rw [sumTo_congr (f := f) (g := g) (fun u hu => h u (by omega) (by omega)), hf]; omega
    · rw [ih (by omega) (fun u hu hne => h u (by omega) hne), h n (by omega) (fun e' => e e'.symm)]; omega

theorem sumTo_pos {n : Nat} {f : Nat → Nat} (h : sumTo n f ≠ 0) : ∃ u, u < n ∧ f u ≠ 0 := by
  induction n with
  | zero => exact absurd rfl h
  | succ n ih =>
    simp only [sumTo] at h
    by_cases e : f n = 0
    · obtain ⟨u, hu, hf⟩ := ih (by omega)
      exact ⟨u, by omega, hf⟩
    · exact ⟨n, by omega, e⟩

theorem sumTo_le_at {n : Nat} {f : Nat → Nat} {u : Nat} (hu : u < n) : f u ≤ sumTo n f := by
  induction n with
  | zero => omega
  | succ n ih =>
    simp only [sumTo]
    by_cases e : u = n
    · subst e; omega
    · have := ih (by omega); omega

theorem sumTo_le {n : Nat} {f g : Nat → Nat} (h : ∀ u, u < n → f u ≤ g u) : sumTo n f ≤ sumTo n g := by
  induction n with
  | zero => exact Nat.le_refl _
  | succ n ih => simp only [sumTo]; have := ih (fun u hu => h u (by omega)); have := h n (by omega); omega

theorem sumTo_mono {m n : Nat} {f : Nat → Nat} (h : m ≤ n) : sumTo m f ≤ sumTo n f := by
  induction n with
  | zero => rw [Nat.le_zero.1 h]; exact Nat.le_refl _
  | succ n ih =>
    simp only [sumTo]
    by_cases e : m = n + 1
    · subst e; simp only [sumTo]; omega
    · have := ih (by omega); omega

/-- A list without repetition, its members below n, has at most n members; and if it has fewer, one is missing. -/
theorem nodup_le : ∀ (n : Nat) (l : List Nat), l.Nodup → (∀ v, v ∈ l → v < n) → l.length ≤ n ∧ (l.length < n → ∃ v, v < n ∧ v ∉ l) ∧ ((∃ v, v < n ∧ v ∉ l) → l.length < n) := by
  intro n
  induction n with
  | zero =>
    intro l _ hlt
    match l with
    | [] => exact ⟨Nat.le_refl _, fun h => by simp at h, fun ⟨v, hv, _⟩ => by omega⟩
    | a :: _ => exact absurd (hlt a (List.mem_cons_self ..)) (by omega)
  | succ n ih =>
    intro l hnd hlt
    by_cases hn : n ∈ l
    · have hl' := ih (l.erase n) (hnd.erase n) (fun v hv => by
        have h1 := hlt v (List.mem_of_mem_erase hv)
        have h2 : v ≠ n := fun e => by subst e; exact (List.Nodup.not_mem_erase hnd) hv
        omega)
      have hlen := List.length_erase_of_mem hn
      have hpos : 0 < l.length := List.length_pos_of_mem hn
      refine ⟨by omega, fun h => ?_, fun ⟨v, hv, hnot⟩ => ?_⟩
      · obtain ⟨v, hv, hnot⟩ := hl'.2.1 (by omega)
        refine ⟨v, by omega, fun hm => hnot ((List.mem_erase_of_ne (by omega)).2 hm)⟩
      · have hvn : v ≠ n := fun e => hnot (e ▸ hn)
        have := hl'.2.2 ⟨v, by omega, fun hm => hnot (List.mem_of_mem_erase hm)⟩
        omega
    · have hl' := ih l hnd (fun v hv => by
        have h1 := hlt v hv
        have h2 : v ≠ n := fun e => hn (e ▸ hv)
        omega)
      exact ⟨by omega, fun _ => ⟨n, by omega, hn⟩, fun _ => by omega⟩

/-! ### Cycles and reaching -/

/-- S is a set of nodes each of which has an edge from a node of S. -/
def PredIn (n : Nat) (G : Nat → List Nat) (S : Nat → Prop) : Prop := ∀ v, S v → v < n ∧ ∃ u, S u ∧ v ∈ G u

def Cyc (n : Nat) (G : Nat → List Nat) : Prop := ∃ S : Nat → Prop, (∃ v, S v) ∧ PredIn n G S

def Rch (G : Nat → List Nat) (a b : Nat) : Prop := ∀ P : Nat → Prop, P a → (∀ u v, P u → v ∈ G u → P v) → P b

theorem Rch.refl (G : Nat → List Nat) (a : Nat) : Rch G a a := fun _ h _ => h
theorem Rch.tail {G : Nat → List Nat} {a u v : Nat} (h : Rch G a u) (e : v ∈ G u) : Rch G a v := fun P pa hc => hc u v (h P pa hc) e
theorem Rch.head {G : Nat → List Nat} {a u b : Nat} (e : u ∈ G a) (h : Rch G u b) : Rch G a b := fun P pa hc => h P (hc a u pa e) hc
theorem Rch.last {G : Nat → List Nat} {a v : Nat} (h : Rch G a v) : v = a ∨ ∃ u, Rch G a u ∧ v ∈ G u := by
  refine h (fun v => v = a ∨ ∃ u, Rch G a u ∧ v ∈ G u) (Or.inl rfl) (fun u v hu e => Or.inr ⟨u, ?_, e⟩)
  rcases hu with rfl | ⟨u', hr, e'⟩
  · exact Rch.refl _ _
  · exact hr.tail e'

def added (G : Nat → List Nat) (a b : Nat) : Nat → List Nat := fun u => if u = a then G u ++ [b] else G u

theorem mem_added {G : Nat → List Nat} {a b u v : Nat} : v ∈ added G a b u ↔ v ∈ G u ∨ (u = a ∧ v = b) := by
  unfold added
  by_cases e : u = a <;> simp [e]

/-- THE LAW: adding the edge a -> b leaves a cycle just when there was one, or b reaches a. -/
theorem cyc_added {n : Nat} {G : Nat → List Nat} {a b : Nat} (hb : b < n) (hG : ∀ u v, v ∈ G u → v < n) : Cyc n (added G a b) ↔ Cyc n G ∨ Rch G b a := by
  constructor
  · rintro ⟨S, hne, hS⟩
    by_cases hr : Rch G b a
    · exact Or.inr hr
    · refine Or.inl ?_
      by_cases ha : S a
      · refine ⟨fun v => S v ∧ ¬ Rch G b v, ⟨a, ha, hr⟩, fun v ⟨hv, hnv⟩ => ?_⟩
        obtain ⟨hlt, u, hu, e⟩ := hS v hv
        refine ⟨hlt, u, ⟨hu, fun hru => ?_⟩, ?_⟩
        · rcases mem_added.1 e with e | ⟨rfl, rfl⟩
          · exact hnv (hru.tail e)
          · exact hnv (Rch.refl _ _)
        · rcases mem_added.1 e with e | ⟨rfl, rfl⟩
          · exact e
          · exact absurd (Rch.refl _ _) hnv
      · refine ⟨S, hne, fun v hv => ?_⟩
        obtain ⟨hlt, u, hu, e⟩ := hS v hv
        refine ⟨hlt, u, hu, ?_⟩
        rcases mem_added.1 e with e | ⟨rfl, rfl⟩
        · exact e
        · exact absurd hu ha
  · rintro (⟨S, hne, hS⟩ | hr)
    · refine ⟨S, hne, fun v hv => ?_⟩
      obtain ⟨hlt, u, hu, e⟩ := hS v hv
      exact ⟨hlt, u, hu, mem_added.2 (Or.inl e)⟩
    · refine ⟨fun v => Rch G b v ∧ Rch G v a, ⟨b, Rch.refl _ _, hr⟩, fun v ⟨h1, h2⟩ => ?_⟩
      rcases h1.last with rfl | ⟨u, hu, e⟩
      · exact ⟨hb, a, ⟨hr, Rch.refl _ _⟩, mem_added.2 (Or.inr ⟨rfl, rfl⟩)⟩
      · exact ⟨hG u v e, u, ⟨hu, h2.head e⟩, mem_added.2 (Or.inl e)⟩

/-! ### Counting edges -/

/-- How many edges lead to v from nodes that are not in T. -/
def deg (n : Nat) (G : Nat → List Nat) (T : List Nat) (v : Nat) : Nat := sumTo n (fun u => if u ∈ T then 0 else (G u).count v)

theorem deg_take {n : Nat} {G : Nat → List Nat} {T : List Nat} {x v : Nat} (hx : x < n) (hT : x ∉ T) : deg n G T v = deg n G (T ++ [x]) v + (G x).count v := by
  refine sumTo_at hx ?_ (fun u _ hne => ?_)
  · simp [hT]
  · simp [hne]

theorem deg_nil (n : Nat) (G : Nat → List Nat) (v : Nat) : deg n G [] v = sumTo n (fun u => (G u).count v) := sumTo_congr (fun u _ => by simp)

theorem deg_ne {n : Nat} {G : Nat → List Nat} {T : List Nat} {v : Nat} (h : deg n G T v ≠ 0) : ∃ u, u < n ∧ u ∉ T ∧ v ∈ G u := by
  obtain ⟨u, hu, hf⟩ := sumTo_pos h
  by_cases e : u ∈ T
  · simp [e] at hf
  · refine ⟨u, hu, e, ?_⟩
    simp only [e, if_false] at hf
    exact List.count_pos_iff.1 (by omega)

theorem deg_pos {n : Nat} {G : Nat → List Nat} {T : List Nat} {u v : Nat} (hu : u < n) (hT : u ∉ T) (e : v ∈ G u) : deg n G T v ≠ 0 := by
  have h := sumTo_le_at (f := fun u => if u ∈ T then 0 else (G u).count v) hu
  simp only [hT, if_false] at h
  have := List.count_pos_iff.2 e
  unfold deg; omega

theorem deg_le (n : Nat) (G : Nat → List Nat) (T : List Nat) (v : Nat) : deg n G T v ≤ sumTo n (fun u => (G u).length) :=
  sumTo_le (fun u _ => by
    by_cases e : u ∈ T
    · simp [e]
    · simp only [e, if_false]; exact List.count_le_length)

/-! ### Taking nodes away -/

/-- WHAT HOLDS INSIDE THE TAKING LOOP: T taken (the last of them x, of whose heads those in R are still to be counted off), F free, inc the counts. -/
structure Kahn (n : Nat) (G : Nat → List Nat) (T F R : List Nat) (inc : Nat → Nat) : Prop where
  nd : (T ++ F).Nodup
  lt : ∀ v, v ∈ T ++ F → v < n
  cnt : ∀ v, v < n → inc v = deg n G T v + R.count v
  zero : ∀ v, v < n → (v ∈ T ++ F ↔ inc v = 0)
  off : ∀ S, PredIn n G S → ∀ v, v ∈ T ++ F → ¬ S v

theorem kahn_start {n : Nat} {G : Nat → List Nat} {inc : Nat → Nat} (hinc : ∀ v, v < n → inc v = sumTo n (fun u => (G u).count v)) :
    Kahn n G [] ((List.range n).filter (fun v => inc v == 0)) [] inc := by
  refine ⟨?_, ?_, ?_, ?_, ?_⟩
  · show List.Nodup ((List.range n).filter (fun v => inc v == 0))
    exact List.Pairwise.filter (fun v => inc v == 0) (List.nodup_range (n := n))
  · intro v hv; simp at hv; exact hv.1
  · intro v hv; rw [hinc v hv, deg_nil]; simp
  · intro v hv; simp [hv]
  · intro S hS v hv hs
    simp at hv
    obtain ⟨hlt, u, hu, e⟩ := hS v hs
    have := deg_pos (T := []) (hS u hu).1 (by simp) e
    rw [deg_nil, ← hinc v hlt] at this
    exact this hv.2

theorem perm_pop (T F : List Nat) (x : Nat) : (T ++ [x] ++ F).Perm (T ++ (F ++ [x])) := by
  rw [List.append_assoc]
  exact List.Perm.append_left T List.perm_append_comm

theorem kahn_pop {n : Nat} {G : Nat → List Nat} {T F : List Nat} {x : Nat} {inc : Nat → Nat} (h : Kahn n G T (F ++ [x]) [] inc) : Kahn n G (T ++ [x]) F (G x) inc := by
  have hp := perm_pop T F x
  have hx : x < n := h.lt x (by simp)
  have hxT : x ∉ T := by
    have := h.nd
    rw [List.nodup_append] at this
    intro hm
    exact this.2.2 x hm x (by simp) rfl
  refine ⟨hp.nodup_iff.2 h.nd, fun v hv => h.lt v (hp.mem_iff.1 hv), fun v hv => ?_, fun v hv => ?_, fun S hS v hv => h.off S hS v (hp.mem_iff.1 hv)⟩
  · rw [h.cnt v hv, deg_take hx hxT]; simp
  · rw [hp.mem_iff]; exact h.zero v hv

def dec (inc : Nat → Nat) (y : Nat) : Nat → Nat := fun v => if v = y then inc v - 1 else inc v

theorem kahn_head {n : Nat} {G : Nat → List Nat} {T F R : List Nat} {y : Nat} {inc : Nat → Nat} (hy : y < n) (h : Kahn n G T F (y :: R) inc) :
    1 ≤ inc y ∧ (inc y - 1 = 0 → Kahn n G T (F ++ [y]) R (dec inc y)) ∧ (inc y - 1 ≠ 0 → Kahn n G T F R (dec inc y)) := by
  have hc := h.cnt y hy
  rw [List.count_cons_self] at hc
  have hnot : y ∉ T ++ F := fun hm => by have := (h.zero y hy).1 hm; omega
  have hcnt : ∀ v, v < n → dec inc y v = deg n G T v + R.count v := fun v hv => by
    unfold dec
    by_cases e : v = y
    · subst e; rw [if_pos rfl]; omega
    · rw [if_neg e, h.cnt v hv, List.count_cons_of_ne (fun e' => e e'.symm)]
  refine ⟨by omega, fun h0 => ?_, fun h0 => ?_⟩
  · have hd0 : deg n G T y = 0 := by omega
    refine ⟨?_, ?_, hcnt, ?_, ?_⟩
    · rw [← List.append_assoc, List.nodup_append]
      refine ⟨h.nd, by simp, fun a ha b hb e => ?_⟩
      simp at hb; subst hb; subst e; exact hnot ha
    · intro v hv
      rw [← List.append_assoc, List.mem_append] at hv
      rcases hv with hv | hv
      · exact h.lt v hv
      · simp at hv; subst hv; exact hy
    · intro v hv
      rw [← List.append_assoc, List.mem_append]
      unfold dec
      by_cases e : v = y
      · subst e; simp; omega
      · rw [if_neg e, ← h.zero v hv]; simp [e]
    · intro S hS v hv hs
      rw [← List.append_assoc, List.mem_append] at hv
      rcases hv with hv | hv
      · exact h.off S hS v hv hs
      · simp at hv; subst hv
        obtain ⟨_, u, hu, e⟩ := hS v hs
        exact deg_pos (hS u hu).1 (fun hm => h.off S hS u (List.mem_append_left _ hm) hu) e hd0
  · refine ⟨h.nd, h.lt, hcnt, fun v hv => ?_, h.off⟩
    unfold dec
    by_cases e : v = y
    · subst e
      rw [if_pos rfl]
      exact ⟨fun hm => absurd hm hnot, fun h1 => absurd h1 h0⟩
    · rw [if_neg e]; exact h.zero v hv

theorem kahn_room {n : Nat} {G : Nat → List Nat} {T F R : List Nat} {inc : Nat → Nat} (h : Kahn n G T F R inc) : T.length + F.length ≤ n := by
  have := (nodup_le n (T ++ F) h.nd h.lt).1
  simpa using this

theorem kahn_done {n : Nat} {G : Nat → List Nat} {T : List Nat} {inc : Nat → Nat} (h : Kahn n G T [] [] inc) : T.length < n ↔ Cyc n G := by
  have hk := nodup_le n (T ++ []) h.nd h.lt
  simp only [List.append_nil] at hk
  constructor
  · intro hlt
    obtain ⟨v, hv, hnot⟩ := hk.2.1 hlt
    refine ⟨fun v => v < n ∧ v ∉ T, ⟨v, hv, hnot⟩, fun v ⟨hv, hnot⟩ => ⟨hv, ?_⟩⟩
    have h0 : inc v ≠ 0 := fun e => hnot (by simpa using (h.zero v hv).2 e)
    rw [h.cnt v hv] at h0
    obtain ⟨u, hu, hT, e⟩ := deg_ne (n := n) (G := G) (T := T) (v := v) (by simpa using h0)
    exact ⟨u, ⟨hu, hT⟩, e⟩
  · rintro ⟨S, ⟨v, hv⟩, hS⟩
    exact hk.2.2 ⟨v, (hS v hv).1, fun hm => h.off S hS v (by simpa using hm) hv⟩

/-! ### Breadth-first search -/

/-- Q the queue, k of it done but for the heads R of Q[k-1 ..] still to be looked at. -/
structure Bfs (n : Nat) (G : Nat → List Nat) (a b : Nat) (Q : List Nat) (k : Nat) : Prop where
  nd : Q.Nodup
  lt : ∀ v, v ∈ Q → v < n
  start : a ∈ Q
  far : ∀ v, v ∈ Q → Rch G a v
  done : ∀ i, i < k → ∀ u, Q[i]? = some u → u ≠ b ∧ ∀ v, v ∈ G u → v ∈ Q

theorem bfs_start {n : Nat} {G : Nat → List Nat} {a b : Nat} (ha : a < n) : Bfs n G a b [a] 0 :=
  ⟨by simp, by simp [ha], by simp, by simp [Rch.refl], fun i hi => absurd hi (Nat.not_lt_zero _)⟩

theorem bfs_room {n : Nat} {G : Nat → List Nat} {a b : Nat} {Q : List Nat} {k : Nat} (h : Bfs n G a b Q k) : Q.length ≤ n := (nodup_le n Q h.nd h.lt).1

theorem bfs_push {n : Nat} {G : Nat → List Nat} {a b : Nat} {Q : List Nat} {k u v : Nat} (h : Bfs n G a b Q k) (hk : k ≤ Q.length) (hu : u ∈ Q) (hv : v < n) (e : v ∈ G u) (hn : v ∉ Q) : Bfs n G a b (Q ++ [v]) k := by
  refine ⟨?_, ?_, by simp [h.start], ?_, ?_⟩
  · rw [List.nodup_append]
    refine ⟨h.nd, by simp, fun x hx y hy e' => ?_⟩
    simp at hy; subst hy; subst e'; exact hn hx
  · intro x hx; simp at hx; rcases hx with hx | rfl
    · exact h.lt x hx
    · exact hv
  · intro x hx; simp at hx; rcases hx with hx | rfl
    · exact h.far x hx
    · exact (h.far u hu).tail e
  · intro i hi x hx
    rw [List.getElem?_append_left (by omega)] at hx
    obtain ⟨h1, h2⟩ := h.done i hi x hx
    exact ⟨h1, fun y hy => List.mem_append_left _ (h2 y hy)⟩

theorem bfs_next {n : Nat} {G : Nat → List Nat} {a b : Nat} {Q : List Nat} {k u : Nat} (h : Bfs n G a b Q k) (hu : Q[k]? = some u) (hne : u ≠ b) (hall : ∀ v, v ∈ G u → v ∈ Q) : Bfs n G a b Q (k + 1) :=
  ⟨h.nd, h.lt, h.start, h.far, fun i hi x hx => by
    by_cases e : i = k
    · subst e; rw [hu] at hx; cases hx; exact ⟨hne, hall⟩
    · exact h.done i (by omega) x hx⟩

theorem bfs_no {n : Nat} {G : Nat → List Nat} {a b : Nat} {Q : List Nat} (h : Bfs n G a b Q Q.length) : ¬ Rch G a b := by
  intro hr
  have hb : b ∈ Q := hr (fun v => v ∈ Q) h.start (fun u v hu e => by
    obtain ⟨i, hi⟩ := List.mem_iff_getElem?.1 hu
    obtain ⟨hlt, _⟩ := List.getElem?_eq_some_iff.1 hi
    exact (h.done i hlt u hi).2 v e)
  obtain ⟨i, hi⟩ := List.mem_iff_getElem?.1 hb
  obtain ⟨hlt, _⟩ := List.getElem?_eq_some_iff.1 hi
  exact (h.done i hlt b hi).1 rfl

end Go.Proofs.Qxb6602375a.Gr
