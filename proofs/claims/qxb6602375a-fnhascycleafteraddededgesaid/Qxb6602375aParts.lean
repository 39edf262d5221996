/-
  WHAT THE WALKS OF hasCycle AND reaches SAY OF MEMORY: lemmas outside the walks.
-/
import Derived.Test.Qxb6602375aProg
import Derived.Test.Qxb6602375aPlain
import Derived.WalkKit
import Derived.WalkSmall
import Derived.Deep.LoopGhost
import Derived.Deep.Light
import Derived.Deep.OwnRows
import Derived.Deep.AppendLies
import Derived.Maps.AppendAt
namespace Go.Proofs.Qxb6602375a
open Go.RowKit

theorem Try.info3 : (Try.prog.info? 3).map (fun i => (i.zero, i.size, i.bytes)) = some (some (.int .i64 0), 1, 8) := by kernel_rfl
theorem Try.info4 : (Try.prog.info? 4).map (fun i => (i.zero, i.size, i.bytes)) = some (some (.bool false), 1, 1) := by kernel_rfl
theorem Try.info24 : (Try.prog.info? 24).map (fun i => (i.zero, i.size, i.bytes)) = some (some (.slice none 0 0), 1, 24) := by kernel_rfl

/-- A row of nodes, its slice in the cell 'a'. -/
def RowAt (w : World) (a : Addr) (row : List Nat) : Prop :=
  ∃ (ao : Option Addr) (cap rb ro : Nat), w.cell? a = some (.slice ao row.length cap) ∧ ∀ c y, row[c]? = some y → ao = some ⟨rb, ro, none⟩ ∧ w.cell? ⟨rb, ro + c, none⟩ = some (.int .i64 (y : Nat))

theorem RowAt.below {w w' : World} {a : Addr} {row : List Nat} (h : RowAt w a row) (hb : Below w.heap.size w w') : RowAt w' a row := by
  obtain ⟨ao, cap, rb, ro, h1, h2⟩ := h
  refine ⟨ao, cap, rb, ro, ?_, fun c y hy => ⟨(h2 c y hy).1, ?_⟩⟩
  · rw [hb.cell (p := a) (World.block_lt_of_cell? _ _ h1)]; exact h1
  · rw [hb.cell (p := ⟨rb, ro + c, none⟩) (World.block_lt_of_cell? _ _ (h2 c y hy).2)]; exact (h2 c y hy).2

/-- A GRAPH AS IT LIES IN A WORLD. -/
structure GN (w : World) (ga : Option Addr) (gb go n : Nat) (G : Nat → List Nat) : Prop where
  hga : 0 < n → ga = some ⟨gb, go, none⟩
  row : ∀ r, r < n → RowAt w ⟨gb, go + r, none⟩ (G r)
  heads : ∀ r v, v ∈ G r → v < n
  nb : n ≤ 1099511627776
  tot : Gr.sumTo n (fun u => (G u).length) ≤ 1099511627776

theorem GN.below {w w' : World} {ga : Option Addr} {gb go n : Nat} {G : Nat → List Nat} (h : GN w ga gb go n G) (hb : Below w.heap.size w w') : GN w' ga gb go n G :=
  ⟨h.hga, fun r hr => (h.row r hr).below hb, h.heads, h.nb, h.tot⟩

theorem GN.len {w : World} {ga : Option Addr} {gb go n : Nat} {G : Nat → List Nat} (h : GN w ga gb go n G) (r : Nat) (hr : r < n) : (G r).length ≤ 1099511627776 :=
  Nat.le_trans (Gr.sumTo_le_at (f := fun u => (G u).length) hr) h.tot

/-! ### The counts -/
def incAt (G : Nat → List Nat) (a e v : Nat) : Nat := Gr.sumTo a (fun u => (G u).count v) + ((G a).take e).count v

theorem inc_step {G : Nat → List Nat} {a e y : Nat} (hy : (G a)[e]? = some y) (v : Nat) : incAt G a (e + 1) v = if v = y then incAt G a e v + 1 else incAt G a e v := by
  unfold incAt
  rw [List.take_add_one, hy]
  by_cases h : v = y
  · subst h; simp [List.count_append]; omega
  · have : y ≠ v := fun e => h e.symm
    simp [List.count_append, h, this]

theorem inc_next (G : Nat → List Nat) (a v : Nat) : incAt G a (G a).length v = incAt G (a + 1) 0 v := by
  unfold incAt; simp [Gr.sumTo]

theorem inc_le {G : Nat → List Nat} {n a e : Nat} (ha : a < n) (v : Nat) : incAt G a e v ≤ Gr.sumTo n (fun u => (G u).length) := by
  have h1 : incAt G a e v ≤ Gr.sumTo (a + 1) (fun u => (G u).length) := by
    unfold incAt
    have h2 : Gr.sumTo a (fun u => (G u).count v) ≤ Gr.sumTo a (fun u => (G u).length) := Gr.sumTo_le (fun u _ => List.count_le_length)
    have h3 : ((G a).take e).count v ≤ (G a).length := Nat.le_trans List.count_le_length (by simp; omega)
    show _ ≤ Gr.sumTo a (fun u => (G u).length) + (G a).length
    omega
  exact Nat.le_trans h1 (Gr.sumTo_mono (by omega))

theorem inc_end (G : Nat → List Nat) (n v : Nat) : incAt G n 0 v = Gr.sumTo n (fun u => (G u).count v) := by unfold incAt; simp
theorem inc_end_le (G : Nat → List Nat) (n v : Nat) : incAt G n 0 v ≤ Gr.sumTo n (fun u => (G u).length) := by
  rw [inc_end]; exact Gr.sumTo_le (fun u _ => List.count_le_length)

/-! ### The world of hasCycle: the counts in one new block -/
structure HI (w wr : World) (n : Nat) (inc : Nat → Nat) : Prop where
  below : Below w.heap.size w wr
  size : w.heap.size + 1 ≤ wr.heap.size
  row : wr.rowIs w.heap.size 3 n (fun v => .int .i64 ((inc v : Nat) : Int))

theorem hi_start (w : World) (G : Nat → List Nat) (n : Nat) : HI w (w.alloc (.cells (madeCells #[.int .i64 0] n) 3)) n (incAt G 0 0) :=
  ⟨(Below.refl _ _).alloc (Nat.le_refl _) _, by simp, (World.rowIs_made w _ n 3).congr (fun v _ => by simp [incAt, Gr.sumTo])⟩

theorem HI.congr {w wr : World} {n : Nat} {inc inc' : Nat → Nat} (h : HI w wr n inc) (e : ∀ v, v < n → inc v = inc' v) : HI w wr n inc' :=
  ⟨h.below, h.size, h.row.congr (fun v hv => by rw [e v hv])⟩

theorem hi_store {w wr : World} {n y : Nat} {z : Int} {inc inc' : Nat → Nat} (h : HI w wr n inc) (hz : z = ((inc' y : Nat) : Int)) (ho : ∀ v, v < n → v ≠ y → inc' v = inc v) :
    HI w (wr.setCell ⟨w.heap.size, y, none⟩ (.int .i64 z)) n inc' :=
  ⟨h.below.setCell (Nat.le_refl _) _, by have := h.size; simp [World.setCell]; omega, (h.row.set y _).congr (fun v hv => by
    by_cases e : v = y
    · subst e; simp [hz]
    · simp [e, ho v hv e])⟩

theorem hi_grow {w wr w1 : World} {n : Nat} {inc : Nat → Nat} (h : HI w wr n inc) (o : Obj) {row : Option Nat} (hr : ∀ k, row = some k → w.heap.size + 1 ≤ k) (hg : (wr.alloc o).grownBy w1 row) : HI w w1 n inc := by
  have hs := h.size
  have hs1 := hg.size
  simp at hs1
  refine ⟨(h.below.alloc (by omega) o).grown hg (by simp; omega) (fun k hk => by have := hr k hk; omega), by omega, (h.row.alloc o).of_block ?_⟩
  exact hg.block _ (by simp; omega) (fun e => by have := hr _ e.symm; omega)

/-! ### A list of nodes in a row of the call's own -/
def natCells (F : List Nat) : List Value := F.map (fun x : Nat => Value.int .i64 (x : Int))
theorem natCells_snoc (F : List Nat) (x : Nat) : natCells F ++ [Value.int .i64 (x : Int)] = natCells (F ++ [x]) := by simp [natCells]
theorem natCells_length (F : List Nat) : (natCells F).length = F.length := by simp [natCells]
theorem natCells_get {F : List Nat} {i x : Nat} (h : F[i]? = some x) : (natCells F)[i]? = some (.int .i64 (x : Int)) := by simp [natCells, h]

def Own (wr : World) (base : Nat) (ao : Option Addr) (m cap : Nat) (F : List Nat) : Prop := m = F.length ∧ wr.ownsRow base 3 1 (.slice ao m cap) m (natCells F)

theorem own_nil (wr : World) (base : Nat) : Own wr base none 0 0 [] := ⟨rfl, World.ownsRow_nil _ _ _ _⟩

theorem own_ge {wr : World} {base : Nat} {ao : Option Addr} {m cap : Nat} {F : List Nat} (h : Own wr base ao m cap F) : ∀ k, (Value.slice ao m cap).ownBlock = some k → base ≤ k := fun k hk => (h.2.lt k hk).1

theorem own_store {wr : World} {base : Nat} {ao : Option Addr} {m cap : Nat} {F : List Nat} (h : Own wr base ao m cap F) {a : Addr} (ha : a.block < base) (u : Value) : Own (wr.setCell a u) base ao m cap F :=
  ⟨h.1, ownsRow_setCell_below h.2 ha u⟩

theorem own_snoc {wr : World} {base g m cap : Nat} {F : List Nat} {x : Nat} (hm : m = F.length) (h : wr.ownsRow base 3 1 (.slice (some ⟨g, 0, none⟩) (m + 1) cap) (m + 1) (natCells F ++ [Value.int .i64 (x : Int)])) : Own wr base (some ⟨g, 0, none⟩) (m + 1) cap (F ++ [x]) :=
  ⟨by simp [hm], by rw [← natCells_snoc]; exact h⟩

theorem own_cell {wr : World} {base g m cap : Nat} {F : List Nat} (h : Own wr base (some ⟨g, 0, none⟩) m cap F) {i x : Nat} (hx : F[i]? = some x) : wr.cell? ⟨g, i, none⟩ = some (.int .i64 (x : Int)) := by
  obtain ⟨hm, ho⟩ := h
  have hi : i < F.length := (List.getElem?_eq_some_iff.1 hx).1
  rw [ho.cellAt i (by omega)]; exact natCells_get hx

theorem own_pop {wr : World} {base g m cap : Nat} {F : List Nat} {x : Nat} (h : Own wr base (some ⟨g, 0, none⟩) (m + 1) cap (F ++ [x])) : Own wr base (some ⟨g, 0, none⟩) m cap F := by
  obtain ⟨hm, ho⟩ := h
  have hm' : m = F.length := by simpa using hm
  rw [← natCells_snoc] at ho
  exact ⟨hm', ownsRow_pop (by rw [natCells_length]; omega) ho⟩

theorem own_form {wr : World} {base : Nat} {ao : Option Addr} {m cap : Nat} {F : List Nat} (h : Own wr base ao (m + 1) cap F) : ∃ g, ao = some ⟨g, 0, none⟩ ∧ base ≤ g ∧ m + 1 ≤ cap := by
  rcases h.2.2 with ⟨_, h0⟩ | ⟨g, cap', cur, hv, hb, hg, hle, _⟩
  · omega
  · cases hv; exact ⟨g, rfl, hb, hle⟩


/-! ### The nodes without an incoming edge -/
def zeros (inc : Nat → Nat) (k : Nat) : List Nat := (List.range k).filter (fun v => inc v == 0)
theorem zeros_yes {inc : Nat → Nat} {k : Nat} (h : inc k = 0) : zeros inc (k + 1) = zeros inc k ++ [k] := by simp [zeros, List.range_succ, List.filter_append, h]
theorem zeros_no {inc : Nat → Nat} {k : Nat} (h : inc k ≠ 0) : zeros inc (k + 1) = zeros inc k := by simp [zeros, List.range_succ, List.filter_append, h]
theorem zeros_le (inc : Nat → Nat) (k : Nat) : (zeros inc k).length ≤ k := by
  have := List.length_filter_le (fun v => inc v == 0) (List.range k)
  simpa [zeros] using this

theorem own_append {wr w1 : World} {base g m cap : Nat} {ao : Option Addr} {cap0 : Nat} {F : List Nat} {x : Nat} (h : Own wr base ao m cap0 F)
    (ho : w1.ownsRow base 3 1 (.slice (some ⟨g, 0, none⟩) (m + 1) cap) (m + 1) (natCells F ++ [Value.int .i64 (x : Int)])) : Own w1 base (some ⟨g, 0, none⟩) (m + 1) cap (F ++ [x]) := own_snoc h.1 ho

/-- ALL THAT THE TAKING LOOP KEEPS TRUE, in one name. -/
structure Taking (w wr : World) (n : Nat) (G : Nat → List Nat) (T F R : List Nat) (ao : Option Addr) (m cap : Nat) (inc : Nat → Nat) : Prop where
  own : Own wr (w.heap.size + 1) ao m cap F
  hi : HI w wr n inc
  kahn : Gr.Kahn n G T F R inc
  bd : ∀ v, inc v ≤ 1099511627776

theorem taking_pop {w wr : World} {n : Nat} {G : Nat → List Nat} {T F : List Nat} {x g m cap : Nat} {inc : Nat → Nat} (h : Taking w wr n G T (F ++ [x]) [] (some ⟨g, 0, none⟩) (m + 1) cap inc) :
    Taking w wr n G (T ++ [x]) F (G x) (some ⟨g, 0, none⟩) m cap inc :=
  ⟨own_pop h.own, h.hi, Gr.kahn_pop h.kahn, h.bd⟩

theorem taking_store {w wr : World} {n : Nat} {G : Nat → List Nat} {T F R : List Nat} {y m cap : Nat} {ao : Option Addr} {inc : Nat → Nat} (hy : y < n) (h : Taking w wr n G T F (y :: R) ao m cap inc) :
    Own (wr.setCell ⟨w.heap.size, y, none⟩ (.int .i64 ((inc y : Nat) - 1 : Int))) (w.heap.size + 1) ao m cap F ∧ HI w (wr.setCell ⟨w.heap.size, y, none⟩ (.int .i64 ((inc y : Nat) - 1 : Int))) n (Gr.dec inc y) := by
  have h1 := (Gr.kahn_head hy h.kahn).1
  refine ⟨own_store h.own (by show w.heap.size < w.heap.size + 1; omega) _, hi_store h.hi ?_ (fun v _ hv => by simp [Gr.dec, hv])⟩
  simp [Gr.dec]; omega

theorem dec_le {inc : Nat → Nat} {y B : Nat} (h : ∀ v, inc v ≤ B) : ∀ v, Gr.dec inc y v ≤ B := fun v => by
  have := h v
  unfold Gr.dec; split <;> omega

theorem one_new {w : World} {N : Nat} (h : w.heap.size = N) (x : Value) (t : TypeId) : ∀ j u, [x][j]? = some u → (w.alloc (.cells #[x] t)).cell? ((⟨N, 0, none⟩ : Addr).add j) = some u := by
  subst h; exact cell_one_new w x t
theorem size_set (w : World) (a : Addr) (v : Value) : (w.setCell a v).heap.size = w.heap.size := by simp [World.setCell]
theorem size_set_alloc (w : World) (a : Addr) (v : Value) (o : Obj) : ((w.setCell a v).alloc o).heap.size = w.heap.size + 1 := by simp [World.setCell]

theorem oneCell_int (x : Int) : ∀ u ∈ [Value.int .i64 x], u.oneCell' = true := by intro u hu; simp at hu; subst hu; rfl

end Go.Proofs.Qxb6602375a
