/-
  THE WALK OF zzAllowModel (22).
-/
import Derived.Test.Qxb6000090aZz
namespace Go.Proofs.Qxb6000090a
open Go.RowKit

/-! ### Plain: the model's first loop goes over all nodes -/
theorem d1_min_in {k j e : Nat} (h2 : j < e) (m : Int) (D : Nat → Int) : Tr.D1 k (min j e) m D = Tr.D1 k j m D ∧ Tr.D1 k (min (j + 1) e) m D = Tr.D1 k (j + 1) m D := by
  rw [Nat.min_eq_left (by omega), Nat.min_eq_left (by omega)]; exact ⟨rfl, rfl⟩
theorem g1_min_in {k j e : Nat} (h2 : j < e) (m : Int) (D G : Nat → Int) : Tr.G1 k (min j e) m D G = Tr.G1 k j m D G ∧ Tr.G1 k (min (j + 1) e) m D G = Tr.G1 k (j + 1) m D G := by
  rw [Nat.min_eq_left (by omega), Nat.min_eq_left (by omega)]; exact ⟨rfl, rfl⟩
theorem d1_min_out {k j e : Nat} (h : ¬ (k ≤ j ∧ j < e)) (m : Int) (D : Nat → Int) : Tr.D1 k (min (j + 1) e) m D = Tr.D1 k (min j e) m D := by
  funext i
  unfold Tr.D1
  by_cases c : k ≤ i ∧ i < min j e
  · rw [if_pos c, if_pos (by omega)]
  · rw [if_neg c, if_neg (by omega)]
theorem g1_min_out {k j e : Nat} (h : ¬ (k ≤ j ∧ j < e)) (m : Int) (D G : Nat → Int) : Tr.G1 k (min (j + 1) e) m D G = Tr.G1 k (min j e) m D G := by
  funext i
  unfold Tr.G1
  by_cases c : k ≤ i ∧ i < min j e
  · rw [if_pos c, if_pos (by omega)]
  · rw [if_neg c, if_neg (by omega)]
theorem d1_U {k e : Nat} {m : Int} {D : Nat → Int} (hm : Tr.U m) (hD : ∀ i, Tr.U (D i)) (i : Nat) : Tr.U (Tr.D1 k e m D i) := by
  unfold Tr.D1; split
  · exact (hD i).bor hm
  · exact hD i
theorem g1_U {k e : Nat} {m : Int} {D G : Nat → Int} (hm : Tr.U m) (hD : ∀ i, Tr.U (D i)) (hG : ∀ i, Tr.U (G i)) (i : Nat) : Tr.U (Tr.G1 k e m D G i) := by
  unfold Tr.G1; split
  · exact (hG i).bor (hm.bnot (hD i))
  · exact hG i
theorem upd_U {D : Nat → Int} {p : Nat} {x : Int} (hD : ∀ i, Tr.U (D i)) (hx : Tr.U x) (i : Nat) : Tr.U (Tr.upd D p x i) := by
  unfold Tr.upd; split
  · exact hx
  · exact hD i
theorem scan_snoc (G par : Nat → Int) (p : Int) (c : Nat) (sh : Int) : Tr.scan G par p (c + 1) 0 sh = if par c = p then Tr.band (Tr.scan G par p c 0 sh) (G c) else Tr.scan G par p c 0 sh := by
  rw [Tr.scan_add]
  simp [Tr.scan]

/-! ### Memory: the two clones -/
structure MM (w wr : World) (n : Nat) (D G : Nat → Int) : Prop where
  below : Below w.heap.size w wr
  d : wr.rowIs w.heap.size 22 n (fun i => .int .u32 (D i))
  g : wr.rowIs (w.heap.size + 1) 22 n (fun i => .int .u32 (G i))

theorem mm_setG {w wr : World} {n : Nat} {D G : Nat → Int} {i : Nat} {x : Int} (h : MM w wr n D G) : MM w (wr.setCell ⟨w.heap.size + 1, i, none⟩ (.int .u32 x)) n D (Tr.upd G i x) :=
  ⟨h.below.setCell (by show w.heap.size ≤ w.heap.size + 1; omega) _, h.d.setOther (by show w.heap.size ≠ w.heap.size + 1; omega) _, (h.g.set i _).congr (fun j _ => by
    unfold Tr.upd
    by_cases e : j = i
    · subst e; simp
    · simp [e])⟩
theorem mm_setD {w wr : World} {n : Nat} {D G : Nat → Int} {i : Nat} {x : Int} (h : MM w wr n D G) : MM w (wr.setCell ⟨w.heap.size, i, none⟩ (.int .u32 x)) n (Tr.upd D i x) G :=
  ⟨h.below.setCell (Nat.le_refl _) _, (h.d.set i _).congr (fun j _ => by
    unfold Tr.upd
    by_cases e : j = i
    · subst e; simp
    · simp [e]), h.g.setOther (by show w.heap.size + 1 ≠ w.heap.size; omega) _⟩
theorem MM.congr {w wr : World} {n : Nat} {D G D' G' : Nat → Int} (h : MM w wr n D G) (hd : ∀ i, i < n → D i = D' i) (hg : ∀ i, i < n → G i = G' i) : MM w wr n D' G' :=
  ⟨h.below, h.d.congr (fun i hi => by rw [hd i hi]), h.g.congr (fun i hi => by rw [hg i hi])⟩
theorem MM.drew {w wr : World} {n : Nat} {D G : Nat → Int} (h : MM w wr n D G) : MM w wr.drew n D G := ⟨h.below.drew, h.d.drew, h.g.drew⟩

set_option maxHeartbeats 4000000 in
set_option maxRecDepth 1000000 in
theorem model22 (b1 o1 b3 o3 b4 o4 n c1 c3 c4 k : Nat) (m : Int) (lv par en D G : Nat → Int) (w : World)
    (h1 : RowV w .i64 (some ⟨b1, o1, none⟩) b1 o1 n par) (h3 : RowV w .u32 (some ⟨b3, o3, none⟩) b3 o3 n D) (h4 : RowV w .u32 (some ⟨b4, o4, none⟩) b4 o4 n G) (T : Tr.Tree n lv par en) (hk : k < n) (hn : n ≤ 4096)
    (hD : ∀ i, Tr.U (D i)) (hG : ∀ i, Tr.U (G i)) (hm : Tr.U m) :
    Calls Try.prog 22 #[.slice (some ⟨b1, o1, none⟩) n c1, .slice (some ⟨b3, o3, none⟩) n c3, .slice (some ⟨b4, o4, none⟩) n c4, .int .i64 k, .int .u32 m] w (ZEnd w n (Tr.endD n par en k m D G) (Tr.endG n par en k m D G)) := by
  have H1 : Hid (RowV w .i64 (some ⟨b1, o1, none⟩) b1 o1 n par) := h1
  have H3 : Hid (RowV w .u32 (some ⟨b3, o3, none⟩) b3 o3 n D) := h3
  have H4 : Hid (RowV w .u32 (some ⟨b4, o4, none⟩) b4 o4 n G) := h4
  have HT : Hid (Tr.Tree n lv par en) := T
  have HU : Hid ((∀ i, Tr.U (D i)) ∧ (∀ i, Tr.U (G i)) ∧ Tr.U m) := ⟨hD, hG, hm⟩
  have hkz : (k : Int) < (n : Int) := by omega
  obtain ⟨_, hke, hken, _⟩ := T.ends k hk
  clear h1 h3 h4 T hD hG hm
  obtain ⟨ek, HEk⟩ : ∃ ek, Hid (Tr.enN en k = ek) := ⟨_, rfl⟩
  rw [HEk.out] at hke hken
  go_enter Try.func22, Try.ntmps22
  go_wp2_with fail
  refine (clone20 b3 o3 n c3 D _ H3.out (by omega)).mono ?_
  rintro e w1 ⟨rfl, hr1, hb1, hz1⟩
  have K4 : Hid (RowV w1 .u32 (some ⟨b4, o4, none⟩) b4 o4 n G) := H4.out.below hb1
  go_wp2_with fail
  refine (clone20 b4 o4 n c4 G _ K4.out (by omega)).mono ?_
  rintro e w2 ⟨rfl, hr2, hb2, hz2⟩
  have HM : Hid (MM w w2 n (Tr.D1 k (min 0 ek) m D) (Tr.G1 k (min 0 ek) m D G)) := by
    have hx : MM w w2 n D G := ⟨hb1.trans (hb2.mono hb1.size), hr1.of_block (hb2.block _ (by rw [hz1]; omega)), by rw [hz1] at hr2; exact hr2⟩
    exact hx.congr (fun i _ => by unfold Tr.D1; rw [if_neg (by omega)]) (fun i _ => by unfold Tr.G1; rw [if_neg (by omega)])
  clear hr1 hb1 hr2 hb2 K4 hz2
  go_wp2_with fail
  clear hz1
  go_loopg [15] n (fun g i wr => ∃ j : Nat, j ≤ n ∧ g = n - j ∧ i = .int .i64 j ∧ MM w wr n (Tr.D1 k (min j ek) m D) (Tr.G1 k (min j ek) m D G))
  case atStart => exact ⟨0, Nat.zero_le _, rfl, rfl, HM.out⟩
  case round =>
    clear HM
    obtain ⟨j, hj, rfl, rfl, hM⟩ := hrel
    by_cases hlt : j < n
    · have hltz : (j : Int) < (n : Int) := by omega
      have YP : Hid (RowV wr .i64 (some ⟨b1, o1, none⟩) b1 o1 n par) := H1.out.below hM.below
      have HBI : Hid (Tr.below par (n + 1) (j : Int) (k : Int) = true ↔ (k ≤ j ∧ j < ek)) := by have h := Tr.below_iff HT.out hk (n + 1) j (by omega) hlt; rw [HEk.out] at h; exact h
      have HMM : Hid (MM w wr n (Tr.D1 k (min j ek) m D) (Tr.G1 k (min j ek) m D G)) := hM
      clear hM
      by_cases hs : k ≤ j ∧ j < ek
      · have hbt : Tr.below par (n + 1) (j : Int) (k : Int) = true := HBI.out.2 hs
        obtain ⟨d1, d2⟩ := d1_min_in hs.2 (k := k) m D
        obtain ⟨g1, g2⟩ := g1_min_in hs.2 (k := k) m D G
        have hM := HMM.out
        rw [d1, g1] at hM
        have HN : Hid (MM w ((wr.setCell ⟨w.heap.size + 1, j, none⟩ (.int .u32 (bits .or .u32 (G j) (bits .andNot .u32 m (D j))))).setCell ⟨w.heap.size, j, none⟩ (.int .u32 (bits .or .u32 (D j) m))).drew n (Tr.D1 k (min (j + 1) ek) m D) (Tr.G1 k (min (j + 1) ek) m D G)) := by
          rw [d2, g2]
          refine ((mm_setD (mm_setG hM)).congr (fun i _ => ?_) (fun i _ => ?_)).drew
          · unfold Tr.upd
            by_cases e : i = j
            · subst e; rw [if_pos rfl, Tr.d1_next hs.1]; rfl
            · rw [if_neg e, Tr.d1_other e]
          · unfold Tr.upd
            by_cases e : i = j
            · subst e; rw [if_pos rfl, Tr.g1_next hs.1]; rfl
            · rw [if_neg e, Tr.g1_other e]
        have e1 : wr.cell? ⟨w.heap.size, j, none⟩ = some (.int .u32 (D j)) := by rw [hM.d.cell hlt, Tr.d1_at]
        have e2 : wr.cell? ⟨w.heap.size + 1, j, none⟩ = some (.int .u32 (G j)) := by rw [hM.g.cell hlt, Tr.g1_at]
        have e3 := hM.d.frozen j
        have e4 := hM.g.frozen j
        clear d1 d2 g1 g2 hM HMM HBI
        go_wp2_with fail
        refine (below24 (some ⟨b1, o1, none⟩) b1 o1 n c1 par j (k : Int) _ YP.out (walkable_of HT.out) hlt (by omega)).mono ?_
        rintro e wx ⟨rfl, hwx⟩
        subst wx
        rw [hbt]
        clear hbt
        go_wp2_with fail
        go_region
        go_wp2_with fail
        go_roundg (n - (j + 1))
        case measure => go_light; omega
        case rel => go_light; exact ⟨j + 1, by omega, rfl, by go_num, HN.out⟩
      · have hbt : Tr.below par (n + 1) (j : Int) (k : Int) = false := by
          cases h : Tr.below par (n + 1) (j : Int) (k : Int)
          · rfl
          · exact absurd (HBI.out.1 h) hs
        have HN : Hid (MM w wr n (Tr.D1 k (min (j + 1) ek) m D) (Tr.G1 k (min (j + 1) ek) m D G)) := by
          rw [d1_min_out hs, g1_min_out hs]; exact HMM.out
        clear HMM HBI
        go_wp2_with fail
        refine (below24 (some ⟨b1, o1, none⟩) b1 o1 n c1 par j (k : Int) _ YP.out (walkable_of HT.out) hlt (by omega)).mono ?_
        rintro e wx ⟨rfl, hwx⟩
        subst wx
        rw [hbt]
        clear hbt
        go_wp2_with fail
        go_roundg (n - (j + 1))
        case measure => go_light; omega
        case rel => go_light; exact ⟨j + 1, by omega, rfl, by go_num, HN.out⟩
    · have hltz : ¬ (j : Int) < (n : Int) := by omega
      obtain rfl : n = j := by omega
      obtain ⟨E1, E2, HF⟩ : ∃ E1 E2 : Nat → Int, Hid (Tr.up n par n (par k) (Tr.D1 k ek m D) (Tr.G1 k ek m D G) = (E1, E2) ∧ Tr.endD n par en k m D G = E1 ∧ Tr.endG n par en k m D G = E2) :=
        ⟨_, _, rfl, by unfold Tr.endD; rw [HEk.out], by unfold Tr.endG; rw [HEk.out]⟩
      rw [Nat.min_eq_right hken] at hM
      have pk := H1.out.cell k hk
      have pk' : wr.cell? ⟨b1, o1 + k, none⟩ = some (.int .i64 (par k)) := by rw [hM.below.cell (p := ⟨b1, o1 + k, none⟩) (World.block_lt_of_cell? _ _ pk)]; exact pk
      have HM : Hid (MM w wr n (Tr.D1 k ek m D) (Tr.G1 k ek m D G)) := hM
      clear hM pk
      go_wp2_with fail
      clear pk'
      -- THE SECOND LOOP: going up
      go_loopg [16] n (fun g p wr => ∃ (q : Int) (D' G' : Nat → Int), p = .int .i64 q ∧ (q = -1 ∨ ∃ p : Nat, q = (p : Int) ∧ p < n ∧ p < g) ∧ Tr.up n par g q D' G' = (E1, E2) ∧ MM w wr n D' G' ∧ (∀ i, Tr.U (D' i)) ∧ ∀ i, Tr.U (G' i))
      case atStart =>
        refine ⟨par k, _, _, rfl, ?_, HF.out.1, HM.out, d1_U HU.out.2.2 HU.out.1, g1_U HU.out.2.2 HU.out.1 HU.out.2.1⟩
        rcases HT.out.parLt k hk with h | ⟨p, h, hp⟩
        · exact Or.inl h
        · exact Or.inr ⟨p, h, by omega, by omega⟩
      case round =>
        clear HM
        obtain ⟨q, D', G', rfl, hq, hup, hM, hUD, hUG⟩ := hrel
        rcases hq with rfl | ⟨p, rfl, hpn, hpg⟩
        · rw [Tr.up_neg] at hup
          cases hup
          have HN : Hid (MM w wr n E1 E2) := hM
          clear hM hUD hUG
          go_wp2_with fail
          go_ret2
          refine ⟨w.heap.size, rfl, ?_⟩
          rw [HF.out.2.1, HF.out.2.2]
          exact ⟨HN.out.d, HN.out.g, HN.out.below⟩
        · obtain ⟨f, rfl⟩ : ∃ f, gk = f + 1 := ⟨gk - 1, by omega⟩
          have hpz : (0 : Int) ≤ (p : Int) := by omega
          have hpnz : (p : Int) < (n : Int) := by omega
          have HA : Hid (MM w wr n D' G' ∧ (∀ i, Tr.U (D' i)) ∧ ∀ i, Tr.U (G' i)) := ⟨hM, hUD, hUG⟩
          have HUP : Hid (Tr.up n par (f + 1) (p : Int) D' G' = (E1, E2)) := hup
          clear hM hUD hUG hup
          go_wp2_with fail
          -- THE THIRD LOOP: the children's grants
          go_loopg [17, 18] n (fun g sh c wx => wx = wr ∧ ∃ (x : Int) (j : Nat), j ≤ n ∧ sh = .int .u32 x ∧ c = .int .i64 j ∧ g = n - j ∧ x = Tr.scan G' par (p : Int) j 0 Tr.ones)
          case atStart => exact ⟨rfl, _, 0, Nat.zero_le _, rfl, rfl, rfl, rfl⟩
          case round =>
            obtain ⟨hwx, x, j, hj2, rfl, rfl, rfl, hx⟩ := hrel
            subst hwx
            have HX : Hid (x = Tr.scan G' par (p : Int) j 0 Tr.ones) := hx
            clear hx
            by_cases hlt : j < n
            · have hltz : (j : Int) < (n : Int) := by omega
              have pj := H1.out.cell j hlt
              have pj' : wr.cell? ⟨b1, o1 + j, none⟩ = some (.int .i64 (par j)) := by rw [HA.out.1.below.cell (p := ⟨b1, o1 + j, none⟩) (World.block_lt_of_cell? _ _ pj)]; exact pj
              have gj : wr.cell? ⟨w.heap.size + 1, j, none⟩ = some (.int .u32 (G' j)) := HA.out.1.g.cell hlt
              clear pj
              by_cases hp : par j = (p : Int)
              · have hpz2 : (par j == (p : Int)) = true := by simp [hp]
                have HN : Hid (bits .and .u32 x (G' j) = Tr.scan G' par (p : Int) (j + 1) 0 Tr.ones) := by
                  show bits .and .u32 x (G' j) = Tr.scan G' par (p : Int) (j + 1) 0 Tr.ones
                  rw [scan_snoc, if_pos hp, ← HX.out]; rfl
                clear hp
                go_wp2_with fail
                go_roundg (n - (j + 1))
                case measure => go_light; omega
                case rel => go_light; exact ⟨rfl, _, j + 1, by omega, rfl, by go_num, rfl, HN.out⟩
              · have hpz2 : (par j == (p : Int)) = false := by simp [hp]
                have HN : Hid (x = Tr.scan G' par (p : Int) (j + 1) 0 Tr.ones) := by
                  show x = Tr.scan G' par (p : Int) (j + 1) 0 Tr.ones
                  rw [scan_snoc, if_neg hp, ← HX.out]
                go_wp2_with fail
                go_roundg (n - (j + 1))
                case measure => go_light; omega
                case rel => go_light; exact ⟨rfl, x, j + 1, by omega, rfl, by go_num, rfl, HN.out⟩
            · have hltz : ¬ (j : Int) < (n : Int) := by omega
              obtain rfl : n = j := by omega
              have HS : Hid (x = Tr.shared n G' par p) := HX.out
              clear HX
              have e1 : wr.cell? ⟨w.heap.size, p, none⟩ = some (.int .u32 (D' p)) := HA.out.1.d.cell hpn
              have e2 : wr.cell? ⟨w.heap.size + 1, p, none⟩ = some (.int .u32 (G' p)) := HA.out.1.g.cell hpn
              have e3 := HA.out.1.d.frozen p
              have e4 := HA.out.1.g.frozen p
              by_cases h0 : bits .andNot .u32 x (D' p) = 0
              · have h0z : (bits .andNot .u32 x (D' p) == 0) = true := by simp [h0]
                have hup : (D', G') = (E1, E2) := by
                  rw [← HUP.out, Tr.up_stop]
                  unfold Tr.bnot; rw [← HS.out]; exact h0
                cases hup
                clear h0
                go_wp2_with fail
                go_ret2
                refine ⟨w.heap.size, rfl, ?_⟩
                rw [HF.out.2.1, HF.out.2.2]
                exact ⟨HA.out.1.d, HA.out.1.g, HA.out.1.below⟩
              · have h0z : (bits .andNot .u32 x (D' p) == 0) = false := by simp [h0]
                have hUx : Tr.U x := by rw [HS.out]; exact Tr.shared_U HA.out.2.2
                have hidem : Tr.bnot (bits .andNot .u32 x (D' p)) (D' p) = bits .andNot .u32 x (D' p) := Tr.bnot_bnot hUx (HA.out.2.1 p)
                have hup : Tr.up n par f (par p) (Tr.upd D' p (Tr.bor (D' p) (bits .andNot .u32 x (D' p)))) (Tr.upd G' p (Tr.bor (G' p) (bits .andNot .u32 x (D' p)))) = (E1, E2) := by
                  have h := Tr.up_go (n := n) (par := par) f p D' G' (by unfold Tr.bnot; rw [← HS.out]; exact h0)
                  rw [HUP.out] at h
                  rw [h, ← HS.out]
                  have hb : Tr.bnot x (D' p) = bits .andNot .u32 x (D' p) := rfl
                  rw [hb, hidem]
                have HUN : Hid (Tr.up n par f (par p) (Tr.upd D' p (Tr.bor (D' p) (bits .andNot .u32 x (D' p)))) (Tr.upd G' p (Tr.bor (G' p) (bits .andNot .u32 x (D' p)))) = (E1, E2)) := hup
                have hUy : Tr.U (bits .andNot .u32 x (D' p)) := hUx.bnot (HA.out.2.1 p)
                have HN : Hid (MM w ((wr.setCell ⟨w.heap.size + 1, p, none⟩ (.int .u32 (bits .or .u32 (G' p) (bits .andNot .u32 x (D' p))))).setCell ⟨w.heap.size, p, none⟩ (.int .u32 (bits .or .u32 (D' p) (bits .andNot .u32 x (D' p))))) n (Tr.upd D' p (Tr.bor (D' p) (bits .andNot .u32 x (D' p)))) (Tr.upd G' p (Tr.bor (G' p) (bits .andNot .u32 x (D' p))))) :=
                  mm_setD (mm_setG HA.out.1)
                have HUU : Hid ((∀ i, Tr.U (Tr.upd D' p (Tr.bor (D' p) (bits .andNot .u32 x (D' p))) i)) ∧ ∀ i, Tr.U (Tr.upd G' p (Tr.bor (G' p) (bits .andNot .u32 x (D' p))) i)) :=
                  ⟨upd_U HA.out.2.1 ((HA.out.2.1 p).bor hUy), upd_U HA.out.2.2 ((HA.out.2.2 p).bor hUy)⟩
                have pp := H1.out.cell p hpn
                have pp' : ((wr.setCell ⟨w.heap.size + 1, p, none⟩ (.int .u32 (bits .or .u32 (G' p) (bits .andNot .u32 x (D' p))))).setCell ⟨w.heap.size, p, none⟩ (.int .u32 (bits .or .u32 (D' p) (bits .andNot .u32 x (D' p))))).cell? ⟨b1, o1 + p, none⟩ = some (.int .i64 (par p)) := by
                  rw [HN.out.below.cell (p := ⟨b1, o1 + p, none⟩) (World.block_lt_of_cell? _ _ pp)]; exact pp
                clear hup h0 hidem hUx hUy pp
                go_wp2_with fail
                go_roundg f
                case measure => go_light; omega
                case rel =>
                  go_light
                  refine ⟨par p, _, _, rfl, ?_, HUN.out, HN.out, HUU.out⟩
                  rcases HT.out.parLt p hpn with h | ⟨p', h, hp'⟩
                  · exact Or.inl h
                  · exact Or.inr ⟨p', h, by omega, by omega⟩

#print axioms model22
end Go.Proofs.Qxb6000090a
