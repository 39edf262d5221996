/-
  THE WALK OF ZZAllow (21).
-/
import Derived.Test.Qxb6000090aAllow
import Derived.Deep.MidRow
import Derived.Deep.RegionHeld3
namespace Go.Proofs.Qxb6000090a
open Go.RowKit

def zeroCells : Array Value := #[.int .i64 0, .int .u8 0, .int .u8 0, .int .u8 0, .int .u8 0, .int .u8 0, .int .u8 0, .int .u8 0, .int .u8 0, .int .u8 0, .int .u8 0, .int .u8 0, .int .u8 0, .int .u8 0, .int .u8 0, .int .u8 0, .int .u8 0, .int .i64 0, .int .i64 0]
theorem Try.info70 : (Try.prog.info? 70).map (fun i => (i.zero, i.size, i.bytes)) = some (some (.agg zeroCells), 19, 40) := by kernel_rfl
theorem Try.info73 : (Try.prog.info? 73).map (fun i => (i.zero, i.size, i.bytes)) = some (some (.agg #[.int .u32 0, .int .u32 0]), 2, 8) := by kernel_rfl

def nodeCells (n : Nat) : Array Value := madeCells zeroCells (n * 19)
theorem make61 (n : Nat) (hn : n ≤ 4096) (W : World) : (Instr.makeSlice 61 (.int .i64 (n : Int)) (.int .i64 (n : Int))).run Try.prog W = .ok (.slice (some ⟨W.heap.size, 0, none⟩) n n) (W.alloc (.cells (nodeCells n) 70)) := by
  obtain ⟨i70, hi, hz0, hz1, hz2⟩ := info_parts Try.info70
  have h := run_make (P := Try.prog) W 61 70 i70 (.agg zeroCells) Try.underlying61 hi hz0 .i64 .i64 (n : Int) (n : Int) (by omega) (by omega) (by rw [hz2]; omega) (by omega)
  rw [hz1, Int.toNat_natCast] at h
  exact h

/-- One node's nineteen cells. (A name: the walk must not lay them out.) -/
def nodeList (x p e : Int) : List Value := [.int .i64 x, .int .u8 0, .int .u8 0, .int .u8 0, .int .u8 0, .int .u8 0, .int .u8 0, .int .u8 0, .int .u8 0, .int .u8 0, .int .u8 0, .int .u8 0, .int .u8 0, .int .u8 0, .int .u8 0, .int .u8 0, .int .u8 0, .int .i64 p, .int .i64 e]
theorem run_store70 (b o : Nat) (x p e : Int) (w : World) (ht : w.there b o 19) :
    (storeVar 70 ⟨b, o, none⟩ (.agg #[.int .i64 x, .int .u8 0, .int .u8 0, .int .u8 0, .int .u8 0, .int .u8 0, .int .u8 0, .int .u8 0, .int .u8 0, .int .u8 0, .int .u8 0, .int .u8 0, .int .u8 0, .int .u8 0, .int .u8 0, .int .u8 0, .int .u8 0, .int .i64 p, .int .i64 e])).run Try.prog w =
      .ok () (w.setCells b o (nodeList x p e)) :=
  run_storeVar_mid (P := Try.prog) w b o 70 #[.int .i64 x, .int .u8 0, .int .u8 0, .int .u8 0, .int .u8 0, .int .u8 0, .int .u8 0, .int .u8 0, .int .u8 0, .int .u8 0, .int .u8 0, .int .u8 0, .int .u8 0, .int .u8 0, .int .u8 0, .int .u8 0, .int .u8 0, .int .i64 p, .int .i64 e] ht (by kernel_rfl) (by kernel_rfl)
def sv70 (a : Addr) (v : Value) : Sem Unit := storeVar 70 a v
theorem sv70_eq (a : Addr) (v : Value) : storeVar 70 a v = sv70 a v := rfl
theorem run_sv70 (b o : Nat) (x p e : Int) (w : World) (ht : w.there b o 19) :
    (sv70 ⟨b, o, none⟩ (.agg #[.int .i64 x, .int .u8 0, .int .u8 0, .int .u8 0, .int .u8 0, .int .u8 0, .int .u8 0, .int .u8 0, .int .u8 0, .int .u8 0, .int .u8 0, .int .u8 0, .int .u8 0, .int .u8 0, .int .u8 0, .int .u8 0, .int .u8 0, .int .i64 p, .int .i64 e])).run Try.prog w =
      .ok () (w.setCells b o (nodeList x p e)) := run_store70 b o x p e w ht
attribute [local go_sem ↓] sv70_eq
attribute [local go_sem] run_sv70
theorem cell_setCells_far (w : World) (b o : Nat) (vs : List Value) (a : Addr) (h : b ≠ a.block) : (w.setCells b o vs).cell? a = w.cell? a :=
  World.cell?_setCells_out b vs o w a (fun hb _ => absurd hb.symm h)

/-- A run of cells stored into a row that is known by its index. -/
theorem row_setCells {b t n : Nat} : ∀ (vs : List Value) (o : Nat) (w : World) (f : Nat → Value), w.rowIs b t n f →
    ∃ f', (w.setCells b o vs).rowIs b t n f' ∧ (∀ x, x < o ∨ o + vs.length ≤ x → f' x = f x) ∧ ∀ j v, vs[j]? = some v → f' (o + j) = v := by
  intro vs
  induction vs with
  | nil => intro o w f h; exact ⟨f, h, fun _ _ => rfl, fun j v hv => by simp at hv⟩
  | cons v r ih =>
    intro o w f h
    obtain ⟨f', h1, h2, h3⟩ := ih (o + 1) _ _ (h.set o v)
    refine ⟨f', h1, fun x hx => ?_, fun j u hu => ?_⟩
    · simp only [List.length_cons] at hx
      rw [h2 x (by omega), if_neg (by omega)]
    · cases j with
      | zero =>
        simp at hu
        rw [Nat.add_zero, h2 o (by omega), if_pos rfl, hu]
      | succ j =>
        simp at hu
        rw [show o + (j + 1) = o + 1 + j by omega]
        exact h3 j u hu

theorem heap_setCells_far (b : Nat) : ∀ (vs : List Value) (o : Nat) (w : World) (k : Nat), k ≠ b → (w.setCells b o vs).heap[k]? = w.heap[k]? := by
  intro vs
  induction vs with
  | nil => intro o w k _; rfl
  | cons v r ih => intro o w k h; rw [World.setCells, ih _ _ _ h, Below.heap_setCell _ _ _ _ h]

theorem below_setCells {B b : Nat} {a : World} (hb : B ≤ b) : ∀ (vs : List Value) (o : Nat) (w : World), Below B a w → Below B a (w.setCells b o vs) := by
  intro vs
  induction vs with
  | nil => intro o w h; exact h
  | cons v r ih => intro o w h; exact ih _ _ (h.setCell hb v)

theorem size_setCells (b : Nat) : ∀ (vs : List Value) (o : Nat) (w : World), (w.setCells b o vs).heap.size = w.heap.size := by
  intro vs
  induction vs with
  | nil => intro o w; rfl
  | cons v r ih => intro o w; rw [World.setCells, ih, size_set]

/-- The nodes' block, j of the nodes laid; the list's own cell behind it. -/
structure NM (w wr : World) (n : Nat) (par en : Nat → Int) (j : Nat) : Prop where
  below : Below w.heap.size w wr
  size : w.heap.size + 2 ≤ wr.heap.size
  top : wr.cell? ⟨w.heap.size + 1, 0, none⟩ = some (.slice (some ⟨w.heap.size, 0, none⟩) n n)
  row : ∃ f : Nat → Value, wr.rowIs w.heap.size 70 (n * 19) f ∧ ∀ i, i < j → f (i * 19 + 17) = .int .i64 (par i) ∧ f (i * 19 + 18) = .int .i64 (en i)

theorem nm_start (w : World) (n : Nat) (par en : Nat → Int) : NM w ((w.alloc (.cells (nodeCells n) 70)).alloc (.cells #[.slice (some ⟨w.heap.size, 0, none⟩) n n] 63)) n par en 0 := by
  refine ⟨((Below.refl _ _).alloc (Nat.le_refl _) _).alloc (by simp) _, by simp, ?_, ⟨fun i => (nodeCells n)[i]?.getD undef, ?_, fun i hi => absurd hi (Nat.not_lt_zero _)⟩⟩
  · simp
  · have hs : (nodeCells n).size = n * 19 := by unfold nodeCells; rw [size_madeCells]
    have h := World.rowIs_alloc w (nodeCells n) 70 (fun i => (nodeCells n)[i]?.getD undef) (fun i hi => by simp [hi])
    rw [hs] at h
    exact h.alloc _

theorem nm_step {w wr : World} {n : Nat} {par en : Nat → Int} {j : Nat} (x : Int) (h : NM w wr n par en j) :
    NM w (wr.drew.setCells w.heap.size (j * 19) (nodeList x (par j) (en j))) n par en (j + 1) := by
  obtain ⟨f, hf, hff⟩ := h.row
  obtain ⟨f', h1, h2, h3⟩ := row_setCells (nodeList x (par j) (en j)) (j * 19) wr.drew f hf.drew
  refine ⟨below_setCells (Nat.le_refl _) _ _ _ h.below.drew, by rw [size_setCells]; exact h.size, ?_, ⟨f', h1, fun i hi => ?_⟩⟩
  · rw [cell_setCells_far _ _ _ _ _ (by show w.heap.size ≠ w.heap.size + 1; omega)]; exact h.top
  · by_cases e : i = j
    · subst e
      exact ⟨h3 17 _ rfl, h3 18 _ rfl⟩
    · have hl : (nodeList x (par j) (en j)).length = 19 := rfl
      rw [h2 _ (by rw [hl]; omega), h2 _ (by rw [hl]; omega)]
      exact hff i (by omega)

/-- The states' block, j of the states laid. -/
structure SM (w wr : World) (n : Nat) (par en D G : Nat → Int) (j : Nat) : Prop where
  nm : NM w wr n par en n
  st : wr.rowIs (w.heap.size + 2) 73 (n * 2) (stv (fun i => if i < j then D i else 0) (fun i => if i < j then G i else 0))

theorem nm_alloc {w wr : World} {n : Nat} {par en : Nat → Int} {j : Nat} (h : NM w wr n par en j) (o : Obj) : NM w (wr.alloc o) n par en j := by
  obtain ⟨f, hf, hff⟩ := h.row
  have hs := h.size
  refine ⟨h.below.alloc (by omega) o, by simp; omega, ?_, ⟨f, hf.alloc o, hff⟩⟩
  rw [World.cell?_alloc_old _ _ _ (by show w.heap.size + 1 ≠ wr.heap.size; omega)]; exact h.top

theorem nm_set {w wr : World} {n : Nat} {par en : Nat → Int} {j : Nat} (h : NM w wr n par en j) {a : Addr} (ha : w.heap.size + 2 ≤ a.block) (v : Value) : NM w (wr.setCell a v) n par en j := by
  obtain ⟨f, hf, hff⟩ := h.row
  refine ⟨h.below.setCell (by omega) v, by rw [size_set]; exact h.size, ?_, ⟨f, hf.setOther (by omega) v, hff⟩⟩
  rw [World.cell?_setCell_other _ _ _ _ (fun e => by have := congrArg Addr.block e; simp at this; omega)]; exact h.top

theorem nm_drew {w wr : World} {n : Nat} {par en : Nat → Int} {j : Nat} (h : NM w wr n par en j) : NM w wr.drew n par en j := ⟨h.below.drew, h.size, h.top, h.row⟩

theorem sm_start {w wr : World} {n : Nat} {par en : Nat → Int} (D G : Nat → Int) (h : NM w wr n par en n) (hs : wr.heap.size = w.heap.size + 2) :
    SM w (wr.alloc (.cells (madeCells #[.int .u32 0, .int .u32 0] (n * 2)) 73)) n par en D G 0 := by
  refine ⟨nm_alloc h _, ?_⟩
  have h1 := World.rowIs_alloc wr (madeCells #[.int .u32 0, .int .u32 0] (n * 2)) 73 (stv (fun i => if i < 0 then D i else 0) (fun i => if i < 0 then G i else 0)) (fun i hi => by
    rw [size_madeCells] at hi
    simp only [madeCells, stv]
    rcases Nat.mod_two_eq_zero_or_one i with e | e <;> simp [hi, e])
  rw [size_madeCells, hs] at h1
  exact h1

theorem sm_step {w wr : World} {n : Nat} {par en D G : Nat → Int} {j : Nat} (h : SM w wr n par en D G j) :
    SM w ((wr.setCell ⟨w.heap.size + 2, j * 2, none⟩ (.int .u32 (D j))).setCell ⟨w.heap.size + 2, j * 2 + 1, none⟩ (.int .u32 (G j))).drew n par en D G (j + 1) := by
  refine ⟨nm_drew (nm_set (nm_set h.nm (Nat.le_refl _) _) (Nat.le_refl _) _), (((h.st.set (j * 2) _).set (j * 2 + 1) _).congr (fun x _ => ?_)).drew⟩
  by_cases e1 : x = j * 2 + 1
  · subst e1
    rw [if_pos rfl, stv_g]; simp
  · rw [if_neg e1]
    by_cases e2 : x = j * 2
    · subst e2
      rw [if_pos rfl, stv_d]; simp
    · rw [if_neg e2]
      unfold stv
      have hx : x / 2 ≠ j := by omega
      by_cases hlt : x / 2 < j
      · simp only [hlt, if_true, show x / 2 < j + 1 by omega]
      · simp only [hlt, if_false, show ¬ x / 2 < j + 1 by omega]

theorem sm_lv {w wr : World} {n : Nat} {lv par en D G : Nat → Int} {j : Nat} (T : Tr.Tree n lv par en) (h : SM w wr n par en D G j) : LV wr (w.heap.size + 1) w.heap.size n par en := by
  obtain ⟨f, hf, hff⟩ := h.nm.row
  refine ⟨h.nm.top, fun i hi => ?_, fun i hi => ?_⟩
  · rw [hf.cell (by omega), (hff i hi).1]
  · rw [hf.cell (by omega), (hff i hi).2, (T.ends i hi).1]

/-- The two answers' blocks, j of the states copied out. -/
structure OM (w wr : World) (n : Nat) (D G : Nat → Int) (j : Nat) : Prop where
  below : Below w.heap.size w wr
  d : wr.rowIs w.heap.size 22 n (fun i => .int .u32 (if i < j then D i else 0))
  g : wr.rowIs (w.heap.size + 1) 22 n (fun i => .int .u32 (if i < j then G i else 0))

theorem om_start (w : World) (n : Nat) (D G : Nat → Int) : OM w ((w.alloc (.cells (madeCells #[.int .u32 0] n) 22)).alloc (.cells (madeCells #[.int .u32 0] n) 22)) n D G 0 := by
  refine ⟨((Below.refl _ _).alloc (Nat.le_refl _) _).alloc (by simp) _, ((World.rowIs_made w _ n 22).congr (fun v _ => by simp)).alloc _, ?_⟩
  have h := World.rowIs_made (w.alloc (.cells (madeCells #[.int .u32 0] n) 22)) (.int .u32 0) n 22
  simp only [World.size_alloc] at h
  exact h.congr (fun v _ => by simp)

theorem om_step {w wr : World} {n : Nat} {D G : Nat → Int} {j : Nat} (h : OM w wr n D G j) :
    OM w ((wr.setCell ⟨w.heap.size, j, none⟩ (.int .u32 (D j))).setCell ⟨w.heap.size + 1, j, none⟩ (.int .u32 (G j))) n D G (j + 1) := by
  refine ⟨(h.below.setCell (Nat.le_refl _) _).setCell (by show w.heap.size ≤ w.heap.size + 1; omega) _, ((h.d.set j _).setOther (by show w.heap.size ≠ w.heap.size + 1; omega) _).congr (fun x _ => ?_), ((h.g.setOther (by show w.heap.size + 1 ≠ w.heap.size; omega) _).set j _).congr (fun x _ => ?_)⟩
  all_goals
    by_cases e : x = j
    · subst e; simp
    · rw [if_neg e]
      by_cases hlt : x < j
      · rw [if_pos hlt, if_pos (by omega)]
      · rw [if_neg hlt, if_neg (by omega)]

def ZEnd (w : World) (n : Nat) (D' G' : Nat → Int) (e : Ending) (w' : World) : Prop :=
  ∃ p, e = .returned (.tuple #[.slice (some ⟨p, 0, none⟩) n n, .slice (some ⟨p + 1, 0, none⟩) n n]) ∧ w'.rowIs p 22 n (fun i => .int .u32 (D' i)) ∧ w'.rowIs (p + 1) 22 n (fun i => .int .u32 (G' i)) ∧ Below w.heap.size w w'

set_option maxHeartbeats 4000000 in
set_option maxRecDepth 1000000 in
theorem zz21 (a0 a1 a2 a3 a4 : Option Addr) (b0 o0 b1 o1 b2 o2 b3 o3 b4 o4 n c0 c1 c2 c3 c4 k : Nat) (m : Int) (lv par en D G : Nat → Int) (w : World)
    (h0 : RowV w .i64 a0 b0 o0 n lv) (h1 : RowV w .i64 a1 b1 o1 n par) (h2 : RowV w .i64 a2 b2 o2 n en) (h3 : RowV w .u32 a3 b3 o3 n D) (h4 : RowV w .u32 a4 b4 o4 n G) (T : Tr.Tree n lv par en) (hk : k < n) (hn : n ≤ 4096) :
    Calls Try.prog 21 #[.slice a0 n c0, .slice a1 n c1, .slice a2 n c2, .slice a3 n c3, .slice a4 n c4, .int .i64 k, .int .u32 m] w (ZEnd w n (Tr.endD n par en k m D G) (Tr.endG n par en k m D G)) := by
  have hmk := make61 n hn
  obtain rfl := h0.ha (by omega)
  obtain rfl := h1.ha (by omega)
  obtain rfl := h2.ha (by omega)
  obtain rfl := h3.ha (by omega)
  obtain rfl := h4.ha (by omega)
  have H0 : Hid (RowV w .i64 (some ⟨b0, o0, none⟩) b0 o0 n lv) := h0
  have H1 : Hid (RowV w .i64 (some ⟨b1, o1, none⟩) b1 o1 n par) := h1
  have H2 : Hid (RowV w .i64 (some ⟨b2, o2, none⟩) b2 o2 n en) := h2
  have H3 : Hid (RowV w .u32 (some ⟨b3, o3, none⟩) b3 o3 n D) := h3
  have H4 : Hid (RowV w .u32 (some ⟨b4, o4, none⟩) b4 o4 n G) := h4
  have HT : Hid (Tr.Tree n lv par en) := T
  clear h0 h1 h2 h3 h4 T
  go_enter Try.func21, Try.ntmps21
  go_wp2_with fail
  clear hmk
  go_loopg [17] n (fun g i wr => ∃ j : Nat, j ≤ n ∧ g = n - j ∧ i = .int .i64 j ∧ NM w wr n par en j ∧ wr.heap.size = w.heap.size + 2)
  case atStart => exact ⟨0, Nat.zero_le _, rfl, rfl, nm_start w n par en, by simp⟩
  case round =>
    obtain ⟨j, hj, rfl, rfl, hN, hsz⟩ := hrel
    by_cases hlt : j < n
    · have hltz : (j : Int) < (n : Int) := by omega
      have hjz : (0 : Int) ≤ (j : Int) := by omega
      have t0 := hN.top
      have q0 := H0.out.cell j hlt
      have q1 := H1.out.cell j hlt
      have q2 := H2.out.cell j hlt
      have e0 : wr.cell? ⟨b0, o0 + j, none⟩ = some (.int .i64 (lv j)) := by rw [hN.below.cell (p := ⟨b0, o0 + j, none⟩) (World.block_lt_of_cell? _ _ q0)]; exact q0
      have e1 : wr.cell? ⟨b1, o1 + j, none⟩ = some (.int .i64 (par j)) := by rw [hN.below.cell (p := ⟨b1, o1 + j, none⟩) (World.block_lt_of_cell? _ _ q1)]; exact q1
      have e2 : wr.cell? ⟨b2, o2 + j, none⟩ = some (.int .i64 (en j)) := by rw [hN.below.cell (p := ⟨b2, o2 + j, none⟩) (World.block_lt_of_cell? _ _ q2)]; exact q2
      have hth : wr.drew.there w.heap.size (j * 19) 19 := by
        obtain ⟨f, hf, _⟩ := hN.row
        intro t ht
        exact ⟨by rw [show wr.drew.cell? ⟨w.heap.size, j * 19 + t, none⟩ = wr.cell? ⟨w.heap.size, j * 19 + t, none⟩ from rfl, hf.cell (by omega)]; rfl, hf.frozen _⟩
      have HN : Hid (NM w (wr.drew.setCells w.heap.size (j * 19) (nodeList (lv j) (par j) (en j))) n par en (j + 1) ∧ (wr.drew.setCells w.heap.size (j * 19) (nodeList (lv j) (par j) (en j))).heap.size = w.heap.size + 2) := ⟨nm_step (lv j) hN, by rw [size_setCells]; exact hsz⟩
      have hb0 : w.heap.size ≠ b0 := World.new_ne w ⟨b0, o0 + j, none⟩ q0
      have hb1 : w.heap.size ≠ b1 := World.new_ne w ⟨b1, o1 + j, none⟩ q1
      have hb2 : w.heap.size ≠ b2 := World.new_ne w ⟨b2, o2 + j, none⟩ q2
      clear hN q0 q1 q2 hsz
      go_wp2_with fail
      go_region_held3 (fun w' => w'.cell? ⟨w.heap.size + 1, 0, none⟩ = some (.slice (some ⟨w.heap.size, 0, none⟩) n n) ∧ w'.cell? ⟨b0, o0 + j, none⟩ = some (.int .i64 (lv j)) ∧ w'.cell? ⟨b1, o1 + j, none⟩ = some (.int .i64 (par j)) ∧ w'.cell? ⟨b2, o2 + j, none⟩ = some (.int .i64 (en j))) (simp [*, cell_setCells_far]) (fail)
      go_wp2_with fail
      go_roundg (n - (j + 1))
      case measure => go_light; omega
      case rel => go_light; exact ⟨j + 1, by omega, rfl, by go_num, HN.out.1, HN.out.2⟩
    · have hltz : ¬ (j : Int) < (n : Int) := by omega
      obtain rfl : n = j := by omega
      obtain ⟨i73, hi, hz0, hz1, hz2⟩ := info_parts Try.info73
      have hmk := fun W : World => run_make (P := Try.prog) W 71 73 i73 (.agg #[.int .u32 0, .int .u32 0]) Try.underlying71 hi hz0 .i64 .i64 (n : Int) (n : Int) (by omega) (by omega) (by rw [hz2]; omega) (by omega)
      have HS : Hid (SM w (wr.alloc (.cells (madeCells #[.int .u32 0, .int .u32 0] (n * 2)) 73)) n par en D G 0) := sm_start D G hN hsz
      clear hN
      go_wp2_with fail
      clear hmk hsz
      go_loopg [19] n (fun g i wr => ∃ j : Nat, j ≤ n ∧ g = n - j ∧ i = .int .i64 j ∧ SM w wr n par en D G j)
      case atStart => exact ⟨0, Nat.zero_le _, rfl, rfl, HS.out⟩
      case round =>
        clear HS
        obtain ⟨j, hj, rfl, rfl, hS⟩ := hrel
        by_cases hlt : j < n
        · have hltz : (j : Int) < (n : Int) := by omega
          have hjz : (0 : Int) ≤ (j : Int) := by omega
          have q3 := H3.out.cell j hlt
          have q4 := H4.out.cell j hlt
          have e3 : wr.cell? ⟨b3, o3 + j, none⟩ = some (.int .u32 (D j)) := by rw [hS.nm.below.cell (p := ⟨b3, o3 + j, none⟩) (World.block_lt_of_cell? _ _ q3)]; exact q3
          have e4 : wr.cell? ⟨b4, o4 + j, none⟩ = some (.int .u32 (G j)) := by rw [hS.nm.below.cell (p := ⟨b4, o4 + j, none⟩) (World.block_lt_of_cell? _ _ q4)]; exact q4
          have k0 : wr.cell? ⟨w.heap.size + 2, j * 2, none⟩ = some (.int .u32 0) := by rw [hS.st.cell (by omega), stv_d]; simp
          have k1 : wr.cell? ⟨w.heap.size + 2, j * 2 + 1, none⟩ = some (.int .u32 0) := by rw [hS.st.cell (by omega), stv_g]; simp
          have f0 := hS.st.frozen (j * 2)
          have f1 := hS.st.frozen (j * 2 + 1)
          have hb3 : w.heap.size + 2 ≠ b3 := fun e => by have h := World.block_lt_of_cell? _ _ q3; simp only at h; omega
          have hb4 : w.heap.size + 2 ≠ b4 := fun e => by have h := World.block_lt_of_cell? _ _ q4; simp only at h; omega
          have HN : Hid (SM w ((wr.setCell ⟨w.heap.size + 2, j * 2, none⟩ (.int .u32 (D j))).setCell ⟨w.heap.size + 2, j * 2 + 1, none⟩ (.int .u32 (G j))).drew n par en D G (j + 1)) := sm_step hS
          clear hS q3 q4
          go_wp2_with fail
          go_region_held3 (fun w' => w'.cell? ⟨b3, o3 + j, none⟩ = some (.int .u32 (D j)) ∧ w'.cell? ⟨b4, o4 + j, none⟩ = some (.int .u32 (G j))) (go_keep) (fail)
          go_wp2_with fail
          go_roundg (n - (j + 1))
          case measure => go_light; omega
          case rel => go_light; exact ⟨j + 1, by omega, rfl, by go_num, HN.out⟩
        · have hltz : ¬ (j : Int) < (n : Int) := by omega
          obtain rfl : n = j := by omega
          have HL : Hid (LV wr (w.heap.size + 1) w.heap.size n par en) := sm_lv HT.out hS
          have HST : Hid (wr.rowIs (w.heap.size + 2) 73 (n * 2) (stv D G)) := hS.st.congr (fun x hx => by
            unfold stv
            simp only [show x / 2 < n by omega, if_true])
          have HB : Hid (Below w.heap.size w wr ∧ w.heap.size + 2 ≤ wr.heap.size) := ⟨hS.nm.below, hS.nm.size⟩
          clear hS
          go_wp2_with fail
          refine (allow29 (w.heap.size + 1) w.heap.size (w.heap.size + 2) n k m lv par en D G _ HL.out HST.out (by omega) (by omega) HT.out hk hn).mono ?_
          rintro e w2 ⟨rfl, hA⟩
          have HA : Hid (w2.rowIs (w.heap.size + 2) 73 (n * 2) (stv (Tr.endD n par en k m D G) (Tr.endG n par en k m D G))) := hA.st
          have HB2 : Hid (Below w.heap.size w w2) := HB.out.1.grown hA.grown (by have := HB.out.2; omega) (fun q hq => by cases hq; omega)
          have hmk := run_make_row' (P := Try.prog) 37 22 (.int .u32 0) 4 Try.underlying37 Try.info22 rfl .i64 .i64 n (by omega) (by omega)
          clear hA HL HST HB
          obtain ⟨D', G', HE⟩ : ∃ D' G', Hid (Tr.endD n par en k m D G = D' ∧ Tr.endG n par en k m D G = G') := ⟨_, _, rfl, rfl⟩
          rw [HE.out.1, HE.out.2] at HA
          go_wp2_with fail
          clear hmk
          go_loopg [22] n (fun g i wr => ∃ j : Nat, j ≤ n ∧ g = n - j ∧ i = .int .i64 j ∧ OM w2 wr n D' G' j)
          case atStart => exact ⟨0, Nat.zero_le _, rfl, rfl, om_start w2 n D' G'⟩
          case round =>
            obtain ⟨j, hj, rfl, rfl, hO⟩ := hrel
            by_cases hlt : j < n
            · have hltz : (j : Int) < (n : Int) := by omega
              have q0 : w2.cell? ⟨w.heap.size + 2, j * 2, none⟩ = some (.int .u32 (D' j)) := by rw [HA.out.cell (by omega), stv_d]
              have q1 : w2.cell? ⟨w.heap.size + 2, j * 2 + 1, none⟩ = some (.int .u32 (G' j)) := by rw [HA.out.cell (by omega), stv_g]
              have hlb := HA.out.lt
              have e0 : wr.cell? ⟨w.heap.size + 2, j * 2, none⟩ = some (.int .u32 (D' j)) := by rw [hO.below.cell (p := ⟨w.heap.size + 2, j * 2, none⟩) hlb]; exact q0
              have e1 : wr.cell? ⟨w.heap.size + 2, j * 2 + 1, none⟩ = some (.int .u32 (G' j)) := by rw [hO.below.cell (p := ⟨w.heap.size + 2, j * 2 + 1, none⟩) hlb]; exact q1
              have e1' : ∀ v, (wr.setCell ⟨w2.heap.size, j, none⟩ v).cell? ⟨w.heap.size + 2, j * 2 + 1, none⟩ = some (.int .u32 (G' j)) := fun v => by
                rw [World.cell?_setCell_other _ _ _ _ (fun e => by have := congrArg Addr.block e; simp at this; omega)]; exact e1
              have k0 : wr.cell? ⟨w2.heap.size, j, none⟩ = some (.int .u32 0) := by rw [hO.d.cell hlt]; simp
              have f0 := hO.d.frozen j
              have k1 : ∀ v, (wr.setCell ⟨w2.heap.size, j, none⟩ v).cell? ⟨w2.heap.size + 1, j, none⟩ = some (.int .u32 0) := fun v => by
                rw [World.cell?_setCell_other _ _ _ _ (fun e => by have := congrArg Addr.block e; simp at this), hO.g.cell hlt]; simp
              have f1 : ∀ v, (wr.setCell ⟨w2.heap.size, j, none⟩ v).frozen? ⟨w2.heap.size + 1, j, none⟩ = false := fun v => (hO.g.setOther (a := ⟨w2.heap.size, j, none⟩) (by show w2.heap.size + 1 ≠ w2.heap.size; omega) v).frozen j
              have HN : Hid (OM w2 ((wr.setCell ⟨w2.heap.size, j, none⟩ (.int .u32 (D' j))).setCell ⟨w2.heap.size + 1, j, none⟩ (.int .u32 (G' j))) n D' G' (j + 1)) := om_step hO
              clear hO q0 q1
              go_wp2_with fail
              go_roundg (n - (j + 1))
              case measure => go_light; omega
              case rel => go_light; exact ⟨j + 1, by omega, rfl, by go_num, HN.out⟩
            · have hltz : ¬ (j : Int) < (n : Int) := by omega
              obtain rfl : n = j := by omega
              have HN : Hid (wr.rowIs w2.heap.size 22 n (fun i => .int .u32 (D' i)) ∧ wr.rowIs (w2.heap.size + 1) 22 n (fun i => .int .u32 (G' i)) ∧ Below w.heap.size w wr) :=
                ⟨hO.d.congr (fun i hi => by rw [if_pos hi]), hO.g.congr (fun i hi => by rw [if_pos hi]), HB2.out.trans (hO.below.mono HB2.out.size)⟩
              clear hO
              go_wp2_with fail
              go_ret2
              refine ⟨w2.heap.size, rfl, ?_⟩
              rw [HE.out.1, HE.out.2]
              exact HN.out

#print axioms zz21
end Go.Proofs.Qxb6000090a
