/-
  PLAIN MATHEMATICS FOR THE TWO LAWS ON allow: trees told by levels, parents and ends; masks of 32 bits. No Go, no program.
-/
import Derived.Laws.BitsAllLaws
namespace Go.Proofs.Qxb6000090a.Tr

/-! ### Masks -/
def bor (a b : Int) : Int := bits .or .u32 a b
def band (a b : Int) : Int := bits .and .u32 a b
def bnot (a b : Int) : Int := bits .andNot .u32 a b
def U (x : Int) : Prop := 0 ≤ x ∧ x < 4294967296
def tb (x : Int) (i : Nat) : Bool := x.toNat.testBit i

theorem bor_nat {a b : Int} (ha : U a) (hb : U b) : bor a b = ((a.toNat ||| b.toNat : Nat) : Int) := u32_or a b ha.1 ha.2 hb.1 hb.2
theorem band_nat {a b : Int} (ha : U a) (hb : U b) : band a b = ((a.toNat &&& b.toNat : Nat) : Int) := u32_and a b ha.1 ha.2 hb.1 hb.2
theorem bnot_nat {a b : Int} (ha : U a) (hb : U b) : bnot a b = ((a.toNat &&& (4294967295 - b.toNat) : Nat) : Int) := u32_andNot a b ha.1 ha.2 hb.1 hb.2

theorem U.bor {a b : Int} (ha : U a) (hb : U b) : U (bor a b) := by
  rw [bor_nat ha hb]
  have : a.toNat ||| b.toNat < 2 ^ 32 := Nat.or_lt_two_pow (by have := ha.2; have := ha.1; omega) (by have := hb.2; have := hb.1; omega)
  exact ⟨by omega, by omega⟩
theorem U.band {a b : Int} (ha : U a) (hb : U b) : U (band a b) := by
  rw [band_nat ha hb]
  have : a.toNat &&& b.toNat < 2 ^ 32 := Nat.and_lt_two_pow _ (by have := hb.2; have := hb.1; omega)
  exact ⟨by omega, by omega⟩
theorem U.bnot {a b : Int} (ha : U a) (hb : U b) : U (bnot a b) := by
  rw [bnot_nat ha hb]
  have : a.toNat &&& (4294967295 - b.toNat) < 2 ^ 32 := Nat.and_lt_two_pow _ (by omega)
  exact ⟨by omega, by omega⟩

theorem tb_bor {a b : Int} (ha : U a) (hb : U b) (i : Nat) : tb (bor a b) i = (tb a i || tb b i) := by
  rw [bor_nat ha hb]; simp [tb]
theorem tb_band {a b : Int} (ha : U a) (hb : U b) (i : Nat) : tb (band a b) i = (tb a i && tb b i) := by
  rw [band_nat ha hb]; simp [tb]
theorem tb_high {a : Int} (ha : U a) {i : Nat} (hi : 32 ≤ i) : tb a i = false := by
  unfold tb
  apply Nat.testBit_lt_two_pow
  have h1 : a.toNat < 2 ^ 32 := by have := ha.2; have := ha.1; omega
  exact Nat.lt_of_lt_of_le h1 (Nat.pow_le_pow_right (by omega) hi)
theorem tb_bnot {a b : Int} (ha : U a) (hb : U b) (i : Nat) : tb (bnot a b) i = (tb a i && !tb b i) := by
  by_cases hi : i < 32
  · rw [bnot_nat ha hb]
    unfold tb
    rw [Int.toNat_natCast, Nat.testBit_and]
    congr 1
    have h1 : b.toNat < 2 ^ 32 := by have := hb.2; have := hb.1; omega
    have h2 : 4294967295 - b.toNat = 2 ^ 32 - (b.toNat + 1) := by omega
    rw [h2, Nat.testBit_two_pow_sub_succ h1]
    simp [hi]
  · rw [tb_high (ha.bnot hb) (by omega), tb_high ha (by omega)]; rfl

theorem tb_ext {a b : Int} (ha : U a) (hb : U b) (h : ∀ i, tb a i = tb b i) : a = b := by
  have : a.toNat = b.toNat := Nat.eq_of_testBit_eq h
  have := ha.1; have := hb.1
  omega
theorem tb_zero (i : Nat) : tb 0 i = false := by simp [tb]
theorem U_zero : U 0 := ⟨by omega, by omega⟩
theorem bnot_zero {a b : Int} (ha : U a) (hb : U b) : bnot a b = 0 ↔ ∀ i, tb a i = true → tb b i = true := by
  constructor
  · intro h i hi
    have := tb_bnot ha hb i
    rw [h, tb_zero, hi] at this
    cases hb' : tb b i
    · rw [hb'] at this; cases this
    · rfl
  · intro h
    refine tb_ext (ha.bnot hb) U_zero (fun i => ?_)
    rw [tb_bnot ha hb, tb_zero]
    cases hi : tb a i
    · rfl
    · rw [h i hi]; rfl

theorem bnot_bnot {s d : Int} (hs : U s) (hd : U d) : bnot (bnot s d) d = bnot s d := by
  refine tb_ext ((hs.bnot hd).bnot hd) (hs.bnot hd) (fun i => ?_)
  rw [tb_bnot (hs.bnot hd) hd, tb_bnot hs hd]
  cases tb s i <;> cases tb d i <;> rfl

/-! ### One state: what a grant keeps true -/
structure Kept (d0 g0 d g : Int) : Prop where
  ud : U d
  ug : U g
  old : ∀ i, tb d0 i = true → tb d i = true
  within : ∀ i, tb g i = true → tb d i = true
  same : ∀ i, (tb g i && tb d0 i) = tb g0 i
  new : ∀ i, tb d i = true → tb d0 i = false → tb g i = true

theorem kept_refl {d0 g0 : Int} (hd : U d0) (hg : U g0) (h : bnot g0 d0 = 0) : Kept d0 g0 d0 g0 := by
  have hw := (bnot_zero hg hd).1 h
  refine ⟨hd, hg, fun _ h => h, hw, fun i => ?_, fun i h1 h2 => by rw [h1] at h2; cases h2⟩
  cases hgi : tb g0 i
  · rfl
  · rw [hw i hgi]; rfl

theorem kept_grant {d0 g0 d g x : Int} (hx : U x) (h : Kept d0 g0 d g) : Kept d0 g0 (bor d x) (bor g (bnot x d)) := by
  have e1 : ∀ i, tb (bor d x) i = (tb d i || tb x i) := tb_bor h.ud hx
  have e2 : ∀ i, tb (bor g (bnot x d)) i = (tb g i || (tb x i && !tb d i)) := fun i => by rw [tb_bor h.ug (hx.bnot h.ud), tb_bnot hx h.ud]
  refine ⟨h.ud.bor hx, h.ug.bor (hx.bnot h.ud), fun i hi => ?_, fun i hi => ?_, fun i => ?_, fun i hi hi0 => ?_⟩
  · rw [e1, h.old i hi]; rfl
  · rw [e2] at hi; rw [e1]
    cases hd : tb d i
    · cases hg : tb g i
      · rw [hg, hd] at hi; simpa using hi
      · have := h.within i hg; rw [hd] at this; cases this
    · rfl
  · rw [e2, ← h.same i]
    cases hd0 : tb d0 i
    · simp
    · have := h.old i hd0
      rw [this]; simp
  · rw [e1] at hi; rw [e2]
    cases hd : tb d i
    · rw [hd] at hi; simp at hi; rw [hi]; simp
    · rw [h.new i hd hi0]; rfl

theorem kept_checks {d0 g0 d g : Int} (hd0 : U d0) (hg0 : U g0) (h : Kept d0 g0 d g) : bnot g d = 0 ∧ bnot d0 d = 0 ∧ band g d0 = g0 ∧ bnot (bnot d d0) g = 0 := by
  refine ⟨(bnot_zero h.ug h.ud).2 h.within, (bnot_zero hd0 h.ud).2 h.old, ?_, ?_⟩
  · refine tb_ext (h.ug.band hd0) hg0 (fun i => ?_)
    rw [tb_band h.ug hd0]; exact h.same i
  · refine (bnot_zero (h.ud.bnot hd0) h.ug).2 (fun i hi => ?_)
    rw [tb_bnot h.ud hd0] at hi
    cases hd : tb d i
    · rw [hd] at hi; simp at hi
    · rw [hd] at hi
      simp at hi
      exact h.new i hd hi

/-! ### Trees -/
def PI (lv : Nat → Int) (i : Nat) (q : Int) : Prop :=
  (q = -1 ∧ ∀ t, t < i → lv i ≤ lv t) ∨ ∃ p : Nat, q = (p : Int) ∧ p < i ∧ lv p < lv i ∧ ∀ t, p < t → t < i → lv i ≤ lv t
def EI (lv : Nat → Int) (n i : Nat) (e : Int) : Prop :=
  ∃ e' : Nat, e = (e' : Int) ∧ i < e' ∧ e' ≤ n ∧ (∀ t, i < t → t < e' → lv i < lv t) ∧ (e' < n → lv e' ≤ lv i)

structure Tree (n : Nat) (lv par en : Nat → Int) : Prop where
  pos : 0 < n
  par : ∀ i, i < n → PI lv i (par i)
  en : ∀ i, i < n → EI lv n i (en i)

def enN (en : Nat → Int) (i : Nat) : Nat := (en i).toNat

variable {n : Nat} {lv par en : Nat → Int}

theorem Tree.ends (T : Tree n lv par en) (i : Nat) (hi : i < n) : en i = (enN en i : Int) ∧ i < enN en i ∧ enN en i ≤ n ∧ (∀ t, i < t → t < enN en i → lv i < lv t) ∧ (enN en i < n → lv (enN en i) ≤ lv i) := by
  obtain ⟨e, he, h1, h2, h3, h4⟩ := T.en i hi
  have e' : enN en i = e := by unfold enN; rw [he]; simp
  rw [e']
  exact ⟨he, h1, h2, h3, h4⟩

theorem Tree.parLt (T : Tree n lv par en) (i : Nat) (hi : i < n) : par i = -1 ∨ ∃ p : Nat, par i = (p : Int) ∧ p < i := by
  rcases T.par i hi with ⟨h, _⟩ | ⟨p, h, hp, _⟩
  · exact Or.inl h
  · exact Or.inr ⟨p, h, hp⟩

/-- k lies on j's walk of parents. -/
def below (par : Nat → Int) : Nat → Int → Int → Bool
  | 0, _, _ => false
  | f + 1, j, k => if j < 0 then false else if j = k then true else below par f (par j.toNat) k

theorem below_neg (par : Nat → Int) (f : Nat) (k : Int) : below par f (-1) k = false := by
  cases f with
  | zero => rfl
  | succ f => simp [below]

/-- THE SUBTREE IS A RANGE. -/
theorem below_iff (T : Tree n lv par en) {k : Nat} (hk : k < n) : ∀ (f i : Nat), i < f → i < n → (below par f (i : Int) (k : Int) = true ↔ (k ≤ i ∧ i < enN en k)) := by
  obtain ⟨_, hke, hken, hin, hout⟩ := T.ends k hk
  intro f
  induction f with
  | zero => intro i hi; omega
  | succ f ih =>
    intro i hif hin'
    have hneg : ¬ ((i : Int) < 0) := by omega
    simp only [below, hneg, if_false, Int.toNat_natCast]
    by_cases e : (i : Int) = (k : Int)
    · have e' : i = k := by omega
      subst e'
      simp [hke]
    · simp only [e, if_false]
      have hne : i ≠ k := by omega
      rcases T.par i hin' with ⟨hp, hall⟩ | ⟨p, hp, hpi, hlt, hall⟩
      · rw [hp, below_neg]
        constructor
        · intro h; cases h
        · rintro ⟨h1, h2⟩
          have := hin i (by omega) h2
          have := hall k (by omega)
          omega
      · rw [hp, ih p (by omega) (by omega)]
        constructor
        · rintro ⟨h1, h2⟩
          refine ⟨by omega, ?_⟩
          rcases Nat.lt_or_ge i (enN en k) with h | h
          · exact h
          · exfalso
            have ho := hout (by omega)
            have hkp : lv k ≤ lv p := by
              by_cases e2 : p = k
              · subst e2; exact Int.le_refl _
              · have := hin p (by omega) h2; omega
            by_cases e3 : enN en k = i
            · rw [e3] at ho; omega
            · have := hall (enN en k) h2 (by omega)
              omega
        · rintro ⟨h1, h2⟩
          have h3 := hin i (by omega) h2
          rcases Nat.lt_or_ge p k with h | h
          · have := hall k h (by omega); omega
          · exact ⟨h, by omega⟩

/-! ### The children of a node -/
theorem PI_unique {i : Nat} {p : Nat} {q : Int} (h1 : p < i) (h2 : lv p < lv i) (h3 : ∀ t, p < t → t < i → lv i ≤ lv t) (h : PI lv i q) : q = (p : Int) := by
  rcases h with ⟨_, hall⟩ | ⟨p', hq, h1', h2', h3'⟩
  · have := hall p h1; omega
  · rcases Nat.lt_trichotomy p p' with h | h | h
    · have := h3 p' h h1'; omega
    · rw [hq, h]
    · have := h3' p h h1; omega

def CP (par en : Nat → Int) (p c : Nat) : Prop := p < c ∧ c ≤ enN en p ∧ (c < enN en p → par c = (p : Int))

theorem child_first (T : Tree n lv par en) {p : Nat} (hp : p < n) : CP par en p (p + 1) := by
  obtain ⟨_, h1, h2, h3, h4⟩ := T.ends p hp
  refine ⟨by omega, by omega, fun hc => ?_⟩
  exact PI_unique (by omega) (h3 (p + 1) (by omega) hc) (fun t a b => by omega) (T.par (p + 1) (by omega))

theorem child_next (T : Tree n lv par en) {p c : Nat} (hp : p < n) (h : CP par en p c) (hc : c < enN en p) :
    c < enN en c ∧ CP par en p (enN en c) ∧ ∀ t, c < t → t < enN en c → par t ≠ (p : Int) := by
  obtain ⟨hpc, _, hpar⟩ := h
  obtain ⟨_, h1, h2, h3, h4⟩ := T.ends p hp
  have hcn : c < n := by omega
  obtain ⟨_, e1, e2, e3, e4⟩ := T.ends c hcn
  have hparc := hpar hc
  obtain ⟨hlt, hall⟩ : lv p < lv c ∧ ∀ t, p < t → t < c → lv c ≤ lv t := by
    rcases T.par c hcn with ⟨hq, _⟩ | ⟨p', hq, _, hlt, hall⟩
    · rw [hparc] at hq; omega
    · have : p' = p := by rw [hparc] at hq; omega
      subst this; exact ⟨hlt, hall⟩
  have hle : enN en c ≤ enN en p := by
    rcases Nat.lt_or_ge (enN en p) (enN en c) with h | h
    · exfalso
      have := e3 (enN en p) hc h
      have := h4 (by omega)
      omega
    · exact h
  refine ⟨e1, ⟨by omega, hle, fun hlt' => ?_⟩, fun t ht1 ht2 hpt => ?_⟩
  · have hq := e4 (by omega)
    refine PI_unique (by omega) (h3 _ (by omega) hlt') (fun t a b => ?_) (T.par (enN en c) (by omega))
    rcases Nat.lt_trichotomy t c with h | h | h
    · have := hall t a h; omega
    · subst h; exact hq
    · have := e3 t h b; omega
  · have h5 := e3 t ht1 ht2
    rcases T.par t (by omega) with ⟨hq, _⟩ | ⟨p', hq, _, _, hall'⟩
    · rw [hpt] at hq; omega
    · have : p' = p := by rw [hpt] at hq; omega
      subst this
      have := hall' c hpc ht1
      omega

theorem not_child_low (T : Tree n lv par en) {p t : Nat} (ht : t < n) (h : t ≤ p) : par t ≠ (p : Int) := by
  rcases T.parLt t ht with hq | ⟨q, hq, hlt⟩ <;> rw [hq] <;> omega

theorem not_child_high (T : Tree n lv par en) {p t : Nat} (hp : p < n) (ht : t < n) (h : enN en p ≤ t) : par t ≠ (p : Int) := by
  obtain ⟨_, h1, h2, h3, h4⟩ := T.ends p hp
  intro hpt
  rcases T.par t ht with ⟨hq, _⟩ | ⟨p', hq, _, hlt, hall⟩
  · rw [hpt] at hq; omega
  · have : p' = p := by rw [hpt] at hq; omega
    subst this
    have h5 := h4 (by omega)
    by_cases e : enN en p' = t
    · rw [e] at h5; omega
    · have := hall (enN en p') h1 (by omega); omega

/-- The masks of p's children, and'ed in order: c nodes from lo on. -/
def scan (G par : Nat → Int) (p : Int) : Nat → Nat → Int → Int
  | 0, _, sh => sh
  | c + 1, lo, sh => scan G par p c (lo + 1) (if par lo = p then band sh (G lo) else sh)

theorem scan_add (G par : Nat → Int) (p : Int) : ∀ (a b lo : Nat) (sh : Int), scan G par p (a + b) lo sh = scan G par p b (lo + a) (scan G par p a lo sh) := by
  intro a
  induction a with
  | zero => intro b lo sh; simp [scan]
  | succ a ih =>
    intro b lo sh
    rw [show a + 1 + b = (a + b) + 1 by omega]
    simp only [scan]
    rw [ih, show lo + 1 + a = lo + (a + 1) by omega]

theorem scan_skip (G par : Nat → Int) (p : Int) : ∀ (c lo : Nat) (sh : Int), (∀ t, lo ≤ t → t < lo + c → par t ≠ p) → scan G par p c lo sh = sh := by
  intro c
  induction c with
  | zero => intro lo sh _; rfl
  | succ c ih =>
    intro lo sh h
    simp only [scan]
    rw [if_neg (h lo (Nat.le_refl _) (by omega))]
    exact ih (lo + 1) sh (fun t h1 h2 => h t (by omega) (by omega))

theorem scan_U {G par : Nat → Int} {p : Int} (hG : ∀ i, U (G i)) : ∀ (c lo : Nat) (sh : Int), U sh → U (scan G par p c lo sh) := by
  intro c
  induction c with
  | zero => intro lo sh h; exact h
  | succ c ih =>
    intro lo sh h
    simp only [scan]
    refine ih _ _ ?_
    split
    · exact h.band (hG lo)
    · exact h

def ones : Int := 4294967295
def shared (n : Nat) (G par : Nat → Int) (p : Int) : Int := scan G par p n 0 ones
theorem shared_U {G : Nat → Int} {p : Int} (hG : ∀ i, U (G i)) : U (shared n G par p) := scan_U hG _ _ _ ⟨by unfold ones; omega, by unfold ones; omega⟩

theorem shared_chain (T : Tree n lv par en) (G : Nat → Int) {p : Nat} (hp : p < n) : scan G par p (enN en p - (p + 1)) (p + 1) ones = shared n G par p := by
  obtain ⟨_, h1, h2, _⟩ := T.ends p hp
  unfold shared
  rw [show n = (p + 1) + ((enN en p - (p + 1)) + (n - enN en p)) by omega, scan_add, scan_add]
  rw [scan_skip G par p (p + 1) 0 ones (fun t _ h => not_child_low T (by omega) (by omega))]
  rw [show 0 + (p + 1) = p + 1 by omega]
  rw [scan_skip G par p (n - enN en p) _ _ (fun t a b => not_child_high T hp (by omega) (by omega))]

theorem chain_step (T : Tree n lv par en) (G : Nat → Int) {p c : Nat} (hp : p < n) (h : CP par en p c) (hc : c < enN en p) (sh : Int) :
    scan G par p (enN en p - c) c sh = scan G par p (enN en p - enN en c) (enN en c) (band sh (G c)) := by
  obtain ⟨h1, h2, h3⟩ := child_next T hp h hc
  have h4 := h2.2.1
  rw [show enN en p - c = (1 + (enN en c - (c + 1))) + (enN en p - enN en c) by omega, scan_add, scan_add]
  have e : scan G par (p : Int) 1 c sh = band sh (G c) := by simp [scan, h.2.2 hc]
  rw [e, scan_skip G par p (enN en c - (c + 1)) (c + 1) _ (fun t a b => h3 t (by omega) (by omega))]
  rw [show c + (1 + (enN en c - (c + 1))) = enN en c by omega]

/-! ### Going up -/
def upd (D : Nat → Int) (i : Nat) (x : Int) : Nat → Int := fun j => if j = i then x else D j

def up (n : Nat) (par : Nat → Int) : Nat → Int → (Nat → Int) → (Nat → Int) → (Nat → Int) × (Nat → Int)
  | 0, _, D, G => (D, G)
  | f + 1, p, D, G =>
    if p < 0 then (D, G)
    else if bnot (shared n G par p) (D p.toNat) = 0 then (D, G)
    else up n par f (par p.toNat) (upd D p.toNat (bor (D p.toNat) (bnot (shared n G par p) (D p.toNat)))) (upd G p.toNat (bor (G p.toNat) (bnot (bnot (shared n G par p) (D p.toNat)) (D p.toNat))))

def D1 (k i : Nat) (m : Int) (D : Nat → Int) : Nat → Int := fun j => if k ≤ j ∧ j < i then bor (D j) m else D j
def G1 (k i : Nat) (m : Int) (D G : Nat → Int) : Nat → Int := fun j => if k ≤ j ∧ j < i then bor (G j) (bnot m (D j)) else G j

theorem d1_start (k : Nat) (m : Int) (D : Nat → Int) : D1 k k m D = D := by
  funext j; unfold D1; rw [if_neg (by omega)]
theorem g1_start (k : Nat) (m : Int) (D G : Nat → Int) : G1 k k m D G = G := by
  funext j; unfold G1; rw [if_neg (by omega)]
theorem d1_at (k j : Nat) (m : Int) (D : Nat → Int) : D1 k j m D j = D j := by unfold D1; rw [if_neg (by omega)]
theorem g1_at (k j : Nat) (m : Int) (D G : Nat → Int) : G1 k j m D G j = G j := by unfold G1; rw [if_neg (by omega)]
theorem d1_next {k j : Nat} (h : k ≤ j) (m : Int) (D : Nat → Int) : D1 k (j + 1) m D j = bor (D j) m := by unfold D1; rw [if_pos ⟨h, by omega⟩]
theorem g1_next {k j : Nat} (h : k ≤ j) (m : Int) (D G : Nat → Int) : G1 k (j + 1) m D G j = bor (G j) (bnot m (D j)) := by unfold G1; rw [if_pos ⟨h, by omega⟩]
theorem d1_other {k j i : Nat} (h : i ≠ j) (m : Int) (D : Nat → Int) : D1 k (j + 1) m D i = D1 k j m D i := by
  unfold D1
  by_cases c : k ≤ i ∧ i < j
  · rw [if_pos c, if_pos (by omega)]
  · rw [if_neg c, if_neg (by omega)]
theorem g1_other {k j i : Nat} (h : i ≠ j) (m : Int) (D G : Nat → Int) : G1 k (j + 1) m D G i = G1 k j m D G i := by
  unfold G1
  by_cases c : k ≤ i ∧ i < j
  · rw [if_pos c, if_pos (by omega)]
  · rw [if_neg c, if_neg (by omega)]
theorem up_neg (f : Nat) (D G : Nat → Int) : up n par f (-1) D G = (D, G) := by
  cases f with
  | zero => rfl
  | succ f => simp [up]
theorem up_stop (f p : Nat) (D G : Nat → Int) (h : bnot (shared n G par p) (D p) = 0) : up n par (f + 1) (p : Int) D G = (D, G) := by
  have hneg : ¬ ((p : Int) < 0) := by omega
  simp only [up, hneg, if_false, Int.toNat_natCast, h, if_true]
theorem up_go (f p : Nat) (D G : Nat → Int) (h : bnot (shared n G par p) (D p) ≠ 0) : up n par (f + 1) (p : Int) D G =
    up n par f (par p) (upd D p (bor (D p) (bnot (shared n G par p) (D p)))) (upd G p (bor (G p) (bnot (bnot (shared n G par p) (D p)) (D p)))) := by
  have hneg : ¬ ((p : Int) < 0) := by omega
  simp only [up, hneg, if_false, Int.toNat_natCast, h]

theorem up_kept {D0 G0 : Nat → Int} : ∀ (f : Nat) (p : Int) (D G : Nat → Int), (∀ i, Kept (D0 i) (G0 i) (D i) (G i)) → ∀ i, Kept (D0 i) (G0 i) ((up n par f p D G).1 i) ((up n par f p D G).2 i) := by
  intro f
  induction f with
  | zero => intro p D G h; exact h
  | succ f ih =>
    intro p D G h
    simp only [up]
    split
    · exact h
    · split
      · exact h
      · refine ih _ _ _ (fun i => ?_)
        have hs : U (shared n G par p) := shared_U (fun i => (h i).ug)
        unfold upd
        by_cases e : i = p.toNat
        · subst e
          simp only [if_true]
          exact kept_grant (hs.bnot (h _).ud) (h _)
        · simp only [e, if_false]; exact h i

theorem up_same : ∀ (f : Nat) (p : Int) (D G : Nat → Int) (i : Nat), below par f p (i : Int) = false → (up n par f p D G).1 i = D i ∧ (up n par f p D G).2 i = G i := by
  intro f
  induction f with
  | zero => intro p D G i _; exact ⟨rfl, rfl⟩
  | succ f ih =>
    intro p D G i h
    simp only [up]
    simp only [below] at h
    by_cases hp : p < 0
    · simp [hp]
    · simp only [hp, if_false] at h ⊢
      split
      · exact ⟨rfl, rfl⟩
      · by_cases e : p = (i : Int)
        · simp [e] at h
        · simp only [e, if_false] at h
          have h1 := ih (par p.toNat) (upd D p.toNat (bor (D p.toNat) (bnot (shared n G par p) (D p.toNat)))) (upd G p.toNat (bor (G p.toNat) (bnot (bnot (shared n G par p) (D p.toNat)) (D p.toNat)))) i h
          have e' : i ≠ p.toNat := by omega
          simp only [upd, e', if_false] at h1
          exact h1

/-- The whole of allow. -/
def endD (n : Nat) (par en : Nat → Int) (k : Nat) (m : Int) (D G : Nat → Int) : Nat → Int := (up n par n (par k) (D1 k (enN en k) m D) (G1 k (enN en k) m D G)).1
def endG (n : Nat) (par en : Nat → Int) (k : Nat) (m : Int) (D G : Nat → Int) : Nat → Int := (up n par n (par k) (D1 k (enN en k) m D) (G1 k (enN en k) m D G)).2

theorem first_kept {k e : Nat} {m : Int} {D G : Nat → Int} (hm : U m) (h : ∀ i, Kept (D i) (G i) (D i) (G i)) (i : Nat) : Kept (D i) (G i) (D1 k e m D i) (G1 k e m D G i) := by
  unfold D1 G1
  by_cases c : k ≤ i ∧ i < e
  · simp only [c, and_self, if_true]; exact kept_grant hm (h i)
  · simp only [c, if_false]; exact h i

theorem end_kept {k : Nat} {m : Int} {D G : Nat → Int} (hm : U m) (h : ∀ i, Kept (D i) (G i) (D i) (G i)) (i : Nat) : Kept (D i) (G i) (endD n par en k m D G i) (endG n par en k m D G i) :=
  up_kept n (par k) _ _ (fun j => first_kept hm h j) i

theorem up_more : ∀ (f : Nat) (p : Int) (D G : Nat → Int) (i b : Nat), (∀ i, U (D i)) → (∀ i, U (G i)) → tb (D i) b = true → tb ((up n par f p D G).1 i) b = true := by
  intro f
  induction f with
  | zero => intro p D G i b _ _ h; exact h
  | succ f ih =>
    intro p D G i b hD hG h
    simp only [up]
    split
    · exact h
    · split
      · exact h
      · have hs : U (shared n G par p) := shared_U hG
        have hU1 : ∀ j, U (upd D p.toNat (bor (D p.toNat) (bnot (shared n G par p) (D p.toNat))) j) := fun j => by
          unfold upd; split
          · exact (hD _).bor (hs.bnot (hD _))
          · exact hD j
        have hU2 : ∀ j, U (upd G p.toNat (bor (G p.toNat) (bnot (bnot (shared n G par p) (D p.toNat)) (D p.toNat))) j) := fun j => by
          unfold upd; split
          · exact (hG _).bor ((hs.bnot (hD _)).bnot (hD _))
          · exact hG j
        refine ih _ _ _ i b hU1 hU2 ?_
        unfold upd
        by_cases e : i = p.toNat
        · subst e
          simp only [if_true]
          rw [tb_bor (hD _) (hs.bnot (hD _)), h]; rfl
        · simp only [e, if_false]; exact h

/-- m is decided at k. -/
theorem end_decides (T : Tree n lv par en) {k : Nat} (hk : k < n) {m : Int} {D G : Nat → Int} (hm : U m) (hD : ∀ i, U (D i)) (hG : ∀ i, U (G i)) : bnot m (endD n par en k m D G k) = 0 := by
  obtain ⟨_, h1, _⟩ := T.ends k hk
  have hU1 : ∀ j, U (D1 k (enN en k) m D j) := fun j => by
    unfold D1; split
    · exact (hD j).bor hm
    · exact hD j
  have hU2 : ∀ j, U (G1 k (enN en k) m D G j) := fun j => by
    unfold G1; split
    · exact (hG j).bor (hm.bnot (hD j))
    · exact hG j
  have hall : ∀ b, tb m b = true → tb (endD n par en k m D G k) b = true := fun b hb => by
    refine up_more n (par k) _ _ k b hU1 hU2 ?_
    have : D1 k (enN en k) m D k = bor (D k) m := by unfold D1; rw [if_pos ⟨Nat.le_refl _, h1⟩]
    rw [this, tb_bor (hD k) hm, hb]; simp
  have hUe : U (endD n par en k m D G k) := by
    unfold endD
    have gen : ∀ (f : Nat) (p : Int) (D G : Nat → Int), (∀ i, U (D i)) → (∀ i, U (G i)) → ∀ i, U ((up n par f p D G).1 i) := by
      intro f
      induction f with
      | zero => intro p D G h _; exact h
      | succ f ih =>
        intro p D G hD hG
        simp only [up]
        split
        · exact hD
        · split
          · exact hD
          · have hs : U (shared n G par p) := shared_U hG
            refine ih _ _ _ (fun j => ?_) (fun j => ?_)
            · unfold upd; split
              · exact (hD _).bor (hs.bnot (hD _))
              · exact hD j
            · unfold upd; split
              · exact (hG _).bor ((hs.bnot (hD _)).bnot (hD _))
              · exact hG j
    exact gen n (par k) _ _ hU1 hU2 k
  exact (bnot_zero hm hUe).2 hall

/-- Outside k's subtree and its ancestors nothing is touched. -/
theorem end_same {k i : Nat} {m : Int} {D G : Nat → Int} (h1 : ¬ (k ≤ i ∧ i < enN en k)) (h2 : below par (n + 1) (k : Int) (i : Int) = false) :
    endD n par en k m D G i = D i ∧ endG n par en k m D G i = G i := by
  have h3 : below par n (par k) (i : Int) = false := by
    have hneg : ¬ ((k : Int) < 0) := by omega
    simp only [below, hneg, if_false, Int.toNat_natCast] at h2
    by_cases e : (k : Int) = (i : Int)
    · simp [e] at h2
    · simpa only [e, if_false] using h2
  obtain ⟨a, b⟩ := up_same (n := n) n (par k) (D1 k (enN en k) m D) (G1 k (enN en k) m D G) i h3
  refine ⟨a.trans ?_, b.trans ?_⟩
  · unfold D1; rw [if_neg h1]
  · unfold G1; rw [if_neg h1]

/-! ### The stack by which zzTreeOK finds parents and ends (top first) -/
def topOf : List Nat → Int
  | [] => -1
  | a :: _ => (a : Int)
def Stk (lv : Nat → Int) : List Nat → Prop
  | [] => True
  | a :: r => PI lv a (topOf r) ∧ Stk lv r

theorem stk_low : ∀ (r : List Nat) (p : Nat), Stk lv (p :: r) → ∀ j, j ∈ r → lv j < lv p ∧ j < p := by
  intro r
  induction r with
  | nil => intro p _ j hj; cases hj
  | cons a r ih =>
    intro p h j hj
    obtain ⟨h1, h2⟩ := h
    have h3 : lv a < lv p ∧ a < p := by
      rcases h1 with ⟨hq, _⟩ | ⟨q, hq, hlt, hlv, _⟩
      · simp [topOf] at hq
      · have : q = a := by simp [topOf] at hq; omega
        subst this; exact ⟨hlv, hlt⟩
    rcases List.mem_cons.1 hj with rfl | hj
    · exact h3
    · have := ih a h2 j hj; omega

structure TI (n : Nat) (lv : Nat → Int) (R : List Nat) (i : Nat) (we : Nat → Int) : Prop where
  stk : Stk lv R
  lt : ∀ j, j ∈ R → j < i
  opn : ∀ j, j ∈ R → ∀ t, j < t → t < i → lv j < lv t
  done : ∀ j, j < i → j ∉ R → EI lv n j (we j)
  len : R.length ≤ i

def Gap (lv : Nat → Int) (R : List Nat) (i : Nat) : Prop := ∀ t : Nat, topOf R < (t : Int) → t < i → lv i ≤ lv t

theorem ti_start {we : Nat → Int} : TI n lv [] 0 we := ⟨trivial, fun _ h => absurd h List.not_mem_nil, fun _ h => absurd h List.not_mem_nil, fun _ h => absurd h (Nat.not_lt_zero _), Nat.le_refl _⟩

theorem gap_start {R : List Nat} {i : Nat} (h : topOf R = (i : Int) - 1) : Gap lv R i := fun t h1 h2 => by omega

theorem ti_pop {R : List Nat} {a i : Nat} {we : Nat → Int} (h : TI n lv (a :: R) i we) (hg : Gap lv (a :: R) i) (hi : i ≤ n) (hle : i < n → lv i ≤ lv a) (hn : ∀ j, j ∈ R → j ≠ a := fun j hj e => by have := (stk_low R a h.stk j hj).2; omega) :
    TI n lv R i (upd we a (i : Int)) ∧ (i < n → Gap lv R i) := by
  refine ⟨⟨h.stk.2, fun j hj => h.lt j (List.mem_cons_of_mem _ hj), fun j hj => h.opn j (List.mem_cons_of_mem _ hj), fun j hj hnot => ?_, by have := h.len; simp at this; omega⟩, fun hin t h1 h2 => ?_⟩
  · by_cases e : j = a
    · subst e
      simp only [upd, if_true]
      exact ⟨i, rfl, hj, hi, h.opn j (List.mem_cons_self ..), hle⟩
    · simp only [upd, e, if_false]
      exact h.done j hj (fun hm => by rcases List.mem_cons.1 hm with rfl | hm; exact e rfl; exact hnot hm)
  · have hai := hle hin
    rcases Nat.lt_trichotomy t a with h3 | h3 | h3
    · have hp := h.stk.1
      rcases hp with ⟨hq, hall⟩ | ⟨q, hq, _, _, hall⟩
      · have := hall t h3; omega
      · rw [hq] at h1
        have := hall t (by omega) h3; omega
    · subst h3; exact hai
    · exact hg t (by simp [topOf]; omega) h2

theorem ti_pop_end {R : List Nat} {a : Nat} {we : Nat → Int} (h : TI n lv (a :: R) n we) : TI n lv R n (upd we a (n : Int)) := by
  refine ⟨h.stk.2, fun j hj => h.lt j (List.mem_cons_of_mem _ hj), fun j hj => h.opn j (List.mem_cons_of_mem _ hj), fun j hj hnot => ?_, by have := h.len; simp at this; omega⟩
  by_cases e : j = a
  · subst e
    simp only [upd, if_true]
    exact ⟨n, rfl, hj, Nat.le_refl _, h.opn j (List.mem_cons_self ..), fun h => absurd h (Nat.lt_irrefl _)⟩
  · simp only [upd, e, if_false]
    exact h.done j hj (fun hm => by rcases List.mem_cons.1 hm with rfl | hm; exact e rfl; exact hnot hm)

theorem pi_of {R : List Nat} {i : Nat} {we : Nat → Int} (h : TI n lv R i we) (hg : Gap lv R i) (hlt : ∀ a r, R = a :: r → lv a < lv i) : PI lv i (topOf R) := by
  cases R with
  | nil => exact Or.inl ⟨rfl, fun t ht => hg t (by simp [topOf]; omega) ht⟩
  | cons a r => exact Or.inr ⟨a, rfl, h.lt a (List.mem_cons_self ..), hlt a r rfl, fun t h1 h2 => hg t (by simp [topOf]; omega) h2⟩

theorem ti_push {R : List Nat} {i : Nat} {we : Nat → Int} (h : TI n lv R i we) (hg : Gap lv R i) (hlt : ∀ a r, R = a :: r → lv a < lv i) : TI n lv (i :: R) (i + 1) we := by
  refine ⟨⟨pi_of h hg hlt, h.stk⟩, fun j hj => ?_, fun j hj t h1 h2 => ?_, fun j hj hnot => ?_, by have := h.len; simp; omega⟩
  · rcases List.mem_cons.1 hj with rfl | hj
    · omega
    · have := h.lt j hj; omega
  · rcases List.mem_cons.1 hj with rfl | hjR
    · omega
    · by_cases e : t = i
      · subst e
        clear hj
        cases R with
        | nil => exact absurd hjR List.not_mem_nil
        | cons a r =>
          have h3 := hlt a r rfl
          rcases List.mem_cons.1 hjR with e | hj'
          · rw [e]; exact h3
          · have := (stk_low r a h.stk j hj').1; omega
      · exact h.opn j hjR t h1 (by omega)
  · have : j ≠ i := fun e => hnot (e ▸ List.mem_cons_self ..)
    exact h.done j (by omega) (fun hm => hnot (List.mem_cons_of_mem _ hm))

end Go.Proofs.Qxb6000090a.Tr
