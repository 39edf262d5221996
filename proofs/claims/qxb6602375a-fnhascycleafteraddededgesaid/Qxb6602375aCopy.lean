/-
  FnHasCycleAfterAddedEdge's OWN MEMORY: the copy of the graph, row by row, and the one edge more. Lemmas outside the walk.
-/
import Derived.Test.Qxb6602375aReach
namespace Go.Proofs.Qxb6602375a
open Go.RowKit

/-- The new graph's own row of rows, when r of them are laid. -/
def topv (N : Nat) (G : Nat → List Nat) (r : Nat) : Nat → Value := fun j => if j < r then .slice (some ⟨N + 1 + j, 0, none⟩) (G j).length ((G j).length + 1) else .slice none 0 0
def cpv (row : List Nat) (k : Nat) : Nat → Value := fun i => if i < k then .int .i64 ((row.getD i 0 : Nat) : Int) else .int .i64 0

structure Cp (w wr : World) (n : Nat) (G : Nat → List Nat) (r : Nat) : Prop where
  below : Below w.heap.size w wr
  size : wr.heap.size = w.heap.size + 1 + r
  top : wr.rowIs w.heap.size 24 n (topv w.heap.size G r)
  done : ∀ j, j < r → wr.rowIs (w.heap.size + 1 + j) 3 ((G j).length + 1) (cpv (G j) (G j).length)

structure Ci (w wr : World) (n : Nat) (G : Nat → List Nat) (r c : Nat) : Prop where
  below : Below w.heap.size w wr
  size : wr.heap.size = w.heap.size + 1 + r + 1
  top : wr.rowIs w.heap.size 24 n (topv w.heap.size G r)
  done : ∀ j, j < r → wr.rowIs (w.heap.size + 1 + j) 3 ((G j).length + 1) (cpv (G j) (G j).length)
  cur : wr.rowIs (w.heap.size + 1 + r) 3 ((G r).length + 1) (cpv (G r) c)

theorem cp_start (w : World) (n : Nat) (G : Nat → List Nat) : Cp w (w.alloc (.cells (madeCells #[.slice none 0 0] n) 24)) n G 0 :=
  ⟨(Below.refl _ _).alloc (Nat.le_refl _) _, by simp, (World.rowIs_made w _ n 24).congr (fun j _ => by simp [topv]), fun j hj => absurd hj (Nat.not_lt_zero _)⟩

theorem ci_start {w wr : World} {n : Nat} {G : Nat → List Nat} {r : Nat} (h : Cp w wr n G r) : Ci w (wr.alloc (.cells (madeCells #[.int .i64 0] ((G r).length + 1)) 3)).drew n G r 0 := by
  have hnew := World.rowIs_made wr (.int .i64 0) ((G r).length + 1) 3
  rw [h.size] at hnew
  exact ⟨(h.below.alloc (by rw [h.size]; omega) _).drew, by simp [h.size], (h.top.alloc _).drew, fun j hj => ((h.done j hj).alloc _).drew, (hnew.congr (fun i _ => by simp [cpv])).drew⟩

theorem ci_step {w wr : World} {n : Nat} {G : Nat → List Nat} {r c y : Nat} (h : Ci w wr n G r c) (hy : (G r)[c]? = some y) :
    Ci w (wr.setCell ⟨w.heap.size + 1 + r, c, none⟩ (.int .i64 (y : Int))) n G r (c + 1) := by
  refine ⟨h.below.setCell (by show w.heap.size ≤ w.heap.size + 1 + r; omega) _, by rw [size_set]; exact h.size, h.top.setOther (by show w.heap.size ≠ w.heap.size + 1 + r; omega) _,
    fun j hj => (h.done j hj).setOther (by show w.heap.size + 1 + j ≠ w.heap.size + 1 + r; omega) _, (h.cur.set c _).congr (fun i _ => ?_)⟩
  simp only [cpv]
  by_cases e : i = c
  · subst e; simp [hy]
  · rw [if_neg e]
    by_cases hlt : i < c
    · rw [if_pos hlt, if_pos (by omega)]
    · rw [if_neg hlt, if_neg (by omega)]

theorem ci_done {w wr : World} {n : Nat} {G : Nat → List Nat} {r : Nat} (h : Ci w wr n G r (G r).length) :
    Cp w (wr.setCell ⟨w.heap.size, r, none⟩ (.slice (some ⟨w.heap.size + 1 + r, 0, none⟩) (G r).length ((G r).length + 1))) n G (r + 1) := by
  refine ⟨h.below.setCell (Nat.le_refl _) _, by rw [size_set, h.size]; omega, (h.top.set r _).congr (fun j _ => ?_), fun j hj => ?_⟩
  · simp only [topv]
    by_cases e : j = r
    · subst e; simp
    · rw [if_neg e]
      by_cases hlt : j < r
      · rw [if_pos hlt, if_pos (by omega)]
      · rw [if_neg hlt, if_neg (by omega)]
  · by_cases e : j = r
    · subst e; exact h.cur.setOther (by show w.heap.size + 1 + j ≠ w.heap.size; omega) _
    · exact (h.done j (by omega)).setOther (by show w.heap.size + 1 + j ≠ w.heap.size; omega) _

/-- A row known by its index, as a slice of its own cells with one cell of room. -/
theorem owns_of_row {w : World} {b base : Nat} {row : List Nat} (hb : base ≤ b) (hl : row.length + 1 ≤ maxLen) (h : w.rowIs b 3 (row.length + 1) (cpv row row.length)) :
    w.ownsRow base 3 1 (.slice (some ⟨b, 0, none⟩) row.length (row.length + 1)) row.length (natCells row) := by
  obtain ⟨c, hc, hn, hi⟩ := h
  refine ⟨by simp [natCells_length], .inr ⟨b, row.length + 1, c, rfl, hb, hc, by omega, hl, by omega, ?_⟩⟩
  apply List.ext_getElem?
  intro i
  rw [Nat.mul_one]
  by_cases hlt : i < row.length
  · rw [List.getElem?_take, if_pos hlt]
    have := hi i (by omega)
    rw [Array.getElem?_toList, this]
    simp [cpv, hlt, natCells]
  · rw [List.getElem?_take, if_neg hlt, List.getElem?_eq_none (by rw [natCells_length]; omega)]

/-- Behind 'h[a] = append(h[a], b)'. -/
theorem cp_added {w wr w2 : World} {n : Nat} {G : Nat → List Nat} {a b : Nat} {o : Obj} (h : Cp w wr n G n) (ha : a < n) (hb : b < n) (hG : ∀ r v, v ∈ G r → v < n) (hn : n ≤ 1048576) (ht : Gr.sumTo n (fun u => (G u).length) ≤ 1048576)
    (ho : w2.ownsRow w.heap.size 3 1 (.slice (some ⟨w.heap.size + 1 + a, 0, none⟩) ((G a).length + 1) ((G a).length + 1)) ((G a).length + 1) (natCells (G a) ++ [.int .i64 (b : Int)]))
    (hg : (wr.alloc o).grownBy w2 (some (w.heap.size + 1 + a))) :
    GN (w2.setCell ⟨w.heap.size, a, none⟩ (.slice (some ⟨w.heap.size + 1 + a, 0, none⟩) ((G a).length + 1) ((G a).length + 1))) (some ⟨w.heap.size, 0, none⟩) w.heap.size 0 n (Gr.added G a b) ∧
    Below w.heap.size w (w2.setCell ⟨w.heap.size, a, none⟩ (.slice (some ⟨w.heap.size + 1 + a, 0, none⟩) ((G a).length + 1) ((G a).length + 1))) := by
  have hs := h.size
  have htop : w2.rowIs w.heap.size 24 n (topv w.heap.size G n) := (h.top.alloc o).of_block (hg.block _ (by simp; omega) (fun e => by simp at e; omega))
  have htop2 := htop.set a (.slice (some ⟨w.heap.size + 1 + a, 0, none⟩) ((G a).length + 1) ((G a).length + 1))
  refine ⟨⟨fun _ => rfl, fun r hr => ?_, fun r v hv => ?_, by omega, ?_⟩, ((h.below.alloc (by omega) o).grown hg (by simp; omega) (fun k hk => by cases hk; omega)).setCell (Nat.le_refl _) _⟩
  · rw [Nat.zero_add]
    have hc := htop2.cell hr
    by_cases e : r = a
    · subst e
      rw [if_pos rfl] at hc
      have hl : (Gr.added G r b r).length = (G r).length + 1 := by simp [Gr.added]
      refine ⟨some ⟨w.heap.size + 1 + r, 0, none⟩, (G r).length + 1, w.heap.size + 1 + r, 0, by rw [hc, hl], fun c y hy => ⟨rfl, ?_⟩⟩
      have hc' : c < (G r).length + 1 := by have := (List.getElem?_eq_some_iff.1 hy).1; simpa [Gr.added] using this
      rw [Nat.zero_add, World.cell?_setCell_other _ _ _ _ (fun e => by have := congrArg Addr.block e; simp at this; omega), ho.cellAt c (by omega), natCells_snoc]
      exact natCells_get (by simpa [Gr.added] using hy)
    · rw [if_neg e] at hc
      simp only [topv, hr, if_true] at hc
      have hadd : Gr.added G a b r = G r := by simp [Gr.added, e]
      have hd : w2.rowIs (w.heap.size + 1 + r) 3 ((G r).length + 1) (cpv (G r) (G r).length) := ((h.done r hr).alloc o).of_block (hg.block _ (by simp; omega) (fun e' => by simp at e'; omega))
      rw [hadd]
      refine ⟨_, _, w.heap.size + 1 + r, 0, hc, fun c y hy => ⟨rfl, ?_⟩⟩
      have hc' : c < (G r).length := (List.getElem?_eq_some_iff.1 hy).1
      rw [Nat.zero_add, World.cell?_setCell_other _ _ _ _ (fun e => by have := congrArg Addr.block e; simp at this; omega), hd.cell (by omega)]
      rw [List.getElem?_eq_getElem hc'] at hy
      cases hy
      simp [cpv, hc']
  · rcases Gr.mem_added.1 hv with hv | ⟨_, rfl⟩
    · exact hG r v hv
    · exact hb
  · rw [Gr.sumTo_at (f := fun u => (Gr.added G a b u).length) (g := fun u => (G u).length) (c := 1) ha (by simp [Gr.added]) (fun u _ hu => by simp [Gr.added, hu])]
    omega

theorem cp_cells {w wr w2 : World} {n : Nat} {G : Nat → List Nat} {a : Nat} {o : Obj} (h : Cp w wr n G n) (ha : a < n) (hg : (wr.alloc o).grownBy w2 (some (w.heap.size + 1 + a))) :
    w2.cell? ⟨w.heap.size, a, none⟩ = some (.slice (some ⟨w.heap.size + 1 + a, 0, none⟩) (G a).length ((G a).length + 1)) ∧ w2.frozen? ⟨w.heap.size, a, none⟩ = false := by
  have hs := h.size
  have htop : w2.rowIs w.heap.size 24 n (topv w.heap.size G n) := (h.top.alloc o).of_block (hg.block _ (by simp; omega) (fun e => by simp at e; omega))
  exact ⟨by rw [htop.cell ha]; simp [topv, ha], htop.frozen a⟩

/-! ### From the argument's numbers to nodes -/
def nodes (n : Nat) (L : Nat → Nat) (Z : Nat → Nat → Int) : Nat → List Nat := fun r => if r < n then (List.range (L r)).map (fun c => (Z r c).toNat) else []

theorem gn_of {w : World} {ga : Option Addr} {gb go n : Nat} {A : Nat → Option Addr} {L C RB RO : Nat → Nat} {Z : Nat → Nat → Int} (hg : GV w ga gb go n A L C RB RO Z)
    (hs : 24 * n + 8 * Gr.sumTo n L ≤ 1048576) (hin : InTo n L Z n) : GN w ga gb go n (nodes n L Z) ∧ Gr.sumTo n (fun u => (nodes n L Z u).length) ≤ 1048576 := by
  have ht : Gr.sumTo n (fun u => (nodes n L Z u).length) = Gr.sumTo n L := Gr.sumTo_congr (fun u hu => by simp [nodes, hu])
  refine ⟨⟨hg.hga, fun r hr => ?_, fun r v hv => ?_, by omega, by rw [ht]; omega⟩, by rw [ht]; omega⟩
  · refine ⟨A r, C r, RB r, RO r, by rw [hg.row r hr]; simp [nodes, hr], fun c y hy => ?_⟩
    simp only [nodes, hr, if_true, List.getElem?_map, Option.map_eq_some_iff] at hy
    obtain ⟨c', hc', rfl⟩ := hy
    obtain ⟨hlt, rfl⟩ := List.getElem?_eq_some_iff.1 hc'
    rw [List.length_range] at hlt
    rw [List.getElem_range]
    obtain ⟨h1, h2⟩ := hg.cell r hr c hlt
    refine ⟨h1, ?_⟩
    rw [h2, Int.toNat_of_nonneg (hin r hr c hlt).1]
  · by_cases hr : r < n
    · simp only [nodes, hr, if_true, List.mem_map, List.mem_range] at hv
      obtain ⟨c, hc, rfl⟩ := hv
      have := hin r hr c hc
      omega
    · simp [nodes, hr] at hv

end Go.Proofs.Qxb6602375a
