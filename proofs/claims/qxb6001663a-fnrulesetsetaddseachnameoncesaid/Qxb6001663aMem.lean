/-
  A TABLE OF NAMED THINGS AS IT LIES IN A WORLD: a slice of pointers, a map from names to the same pointers, and the things. Lemmas outside the walks. (A Table of Chains; a Ruleset of Sets.)
-/
import Derived.Test.Qxb6001663aProg
import Derived.Test.Qxb6001663aPlain
import Derived.WalkKit
import Derived.WalkSmall
import Derived.WalkSpells
import Derived.Deep.LoopGhost
import Derived.Deep.Light
import Derived.Deep.OwnRows
import Derived.Deep.AppendLies
import Derived.Maps.AppendAt
import Derived.Maps.OwnSet
namespace Go.Proofs.Qxb6001663a
open Go.RowKit Go.ChangeMaps Go.Deep

/-- What is the owner's first cell, the three types (owner, thing, pointer to thing), how many cells a thing has, and what cell j of a new thing named s at place i holds. -/
structure Kind where
  T0 : Value
  tT : TypeId
  tC : TypeId
  tP : TypeId
  nC : Nat
  cv : ByteArray → Nat → Nat → Value
  ne : tP ≠ tC
  nT : tP ≠ tT

def ptr (o : Option Nat) : Value := .pointer (o.map fun b => ⟨b, 0, none⟩)
def at0 (b : Nat) : Value := .pointer (some ⟨b, 0, none⟩)
def ptrs (Ps : List (ByteArray × Nat)) : List Value := Ps.map fun p => at0 p.2
def kv (e : MapEntry) : Value × Value := (e.key, e.val)
def pkv (p : ByteArray × Nat) : Value × Value := (.string p.1, at0 p.2)

def tabv (K : Kind) (ao : Option Addr) (m cap : Nat) (mo : Option Nat) : Nat → Value
  | 0 => K.T0
  | 1 => .slice ao m cap
  | 2 => .map mo
  | _ => .int .i64 0

structure TB (K : Kind) (w : World) (tb : Nat) (Ps : List (ByteArray × Nat)) (ao : Option Addr) (m cap : Nat) (mo : Option Nat) : Prop where
  tab : w.rowIs tb K.tT 4 (tabv K ao m cap mo)
  hm : m = Ps.length
  own : w.ownsRow (tb + 1) K.tP 1 (.slice ao m cap) m (ptrs Ps)
  map : (mo = none ∧ Ps = []) ∨ ∃ mb es clock, mo = some mb ∧ tb < mb ∧ w.heap[mb]? = some (.map es clock) ∧ es.toList.map kv = Ps.map pkv
  item : ∀ i p, Ps[i]? = some p → tb < p.2 ∧ w.rowIs p.2 K.tC K.nC (K.cv p.1 i)
  nodup : (Ps.map (·.1)).Nodup

theorem lt_of_heap {w : World} {b : Nat} {o : Obj} (h : w.heap[b]? = some o) : b < w.heap.size := (Array.getElem?_eq_some_iff.1 h).1

theorem TB.below {K : Kind} {w w' : World} {tb : Nat} {Ps : List (ByteArray × Nat)} {ao : Option Addr} {m cap : Nat} {mo : Option Nat} (h : TB K w tb Ps ao m cap mo) (hb : Below w.heap.size w w') : TB K w' tb Ps ao m cap mo := by
  refine ⟨h.tab.of_block (hb.block _ h.tab.lt), h.hm, ?_, ?_, fun i p hp => ⟨(h.item i p hp).1, (h.item i p hp).2.of_block (hb.block _ (h.item i p hp).2.lt)⟩, h.nodup⟩
  · obtain ⟨hl, ho⟩ := h.own
    refine ⟨hl, ?_⟩
    rcases ho with ho | ⟨g, c, cur, h1, h2, h3, h4⟩
    · exact .inl ho
    · exact .inr ⟨g, c, cur, h1, h2, by rw [hb.block _ (lt_of_heap h3)]; exact h3, h4⟩
  · rcases h.map with hm | ⟨mb, es, clock, h1, h2, h3, h4⟩
    · exact .inl hm
    · exact .inr ⟨mb, es, clock, h1, h2, by rw [hb.block _ (lt_of_heap h3)]; exact h3, h4⟩

/-! ### Look-ups -/
def Res (Ps : List (ByteArray × Nat)) (s : ByteArray) (o : Option Nat) : Prop := (∃ b, o = some b ∧ (s, b) ∈ Ps) ∨ (o = none ∧ s ∉ Ps.map (·.1))

theorem inj_of_nodup {Ps : List (ByteArray × Nat)} (h : (Ps.map (·.1)).Nodup) {s : ByteArray} {a b : Nat} (ha : (s, a) ∈ Ps) (hb : (s, b) ∈ Ps) : a = b := by
  induction Ps with
  | nil => cases ha
  | cons p Ps ih =>
    simp only [List.map_cons, List.nodup_cons] at h
    rcases List.mem_cons.1 ha with ha | ha <;> rcases List.mem_cons.1 hb with hb | hb
    · rw [← ha] at hb; cases hb; rfl
    · exact absurd (List.mem_map.2 ⟨_, hb, by rw [← ha]⟩) h.1
    · exact absurd (List.mem_map.2 ⟨_, ha, by rw [← hb]⟩) h.1
    · exact ih h.2 ha hb

theorem Res.of_mem {Ps : List (ByteArray × Nat)} (h : (Ps.map (·.1)).Nodup) {s : ByteArray} {b : Nat} {o : Option Nat} (hb : (s, b) ∈ Ps) (hr : Res Ps s o) : o = some b := by
  rcases hr with ⟨b', rfl, hb'⟩ | ⟨_, hn⟩
  · rw [inj_of_nodup h hb hb']
  · exact absurd (List.mem_map.2 ⟨_, hb, rfl⟩) hn

theorem run_look {P : Program} {K : Kind} {w : World} {tb : Nat} {Ps : List (ByteArray × Nat)} {ao : Option Addr} {m cap : Nat} {mo : Option Nat} (h : TB K w tb Ps ao m cap mo)
    {mt kt et : TypeId} (hmt : P.underlying mt = some (.map kt et)) (hkt : P.underlying kt = some .string) (hz : (zeroValue et).run P w = .ok (.pointer none) w) (s : ByteArray) :
    ∃ o, Res Ps s o ∧ (Instr.lookup mt (.map mo) (.string s) true).run P w = .ok (.tuple #[ptr o, .bool o.isSome]) w ∧ (Instr.lookup mt (.map mo) (.string s) false).run P w = .ok (ptr o) w := by
  have hck : ∀ em, (Instr.checkKey em 10000 kt (.string s)).run P w = .ok () w := fun em => MapKept.run_checkKey (k := .string s) hkt (by simp [MapKept.IsKey]) em 9999
  rcases h.map with ⟨rfl, rfl⟩ | ⟨mb, es, clock, rfl, _, hb, hes⟩
  · have hf : Instr.findNow .string (.string s) ([] : List MapEntry) 0 = some none := rfl
    refine ⟨none, .inr ⟨rfl, by simp⟩, ?_, ?_⟩ <;> simp [Instr.lookup, run_underlying hmt, hck, MapKept.run_findKey hkt hf, hz, Result.andThen, ptr]
  · have hks : ∀ x ∈ es.toList, MapKept.IsKey .string x.key := fun x hx => by
      have : kv x ∈ Ps.map pkv := by rw [← hes]; exact List.mem_map.2 ⟨x, hx, rfl⟩
      obtain ⟨p, _, hp⟩ := List.mem_map.1 this
      have : x.key = .string p.1 := by have := congrArg Prod.fst hp; exact this.symm
      rw [this]; trivial
    rcases MapKept.findNow_spec (d := .string) (k := .string s) trivial es.toList 0 hks with ⟨h1, h2⟩ | ⟨j, e0, h1, h2, h3⟩
    · refine ⟨none, .inr ⟨rfl, fun hm => ?_⟩, ?_, ?_⟩
      · obtain ⟨p, hp, rfl⟩ := List.mem_map.1 hm
        have : pkv p ∈ es.toList.map kv := by rw [hes]; exact List.mem_map.2 ⟨p, hp, rfl⟩
        obtain ⟨x, hx, hxe⟩ := List.mem_map.1 this
        exact h2 x hx (congrArg Prod.fst hxe)
      all_goals simp [Instr.lookup, run_underlying hmt, MapKept.run_getObj_map hb, hck, MapKept.run_findKey hkt h1, hz, Result.andThen, ptr]
    · have hmem : kv e0 ∈ Ps.map pkv := by rw [← hes]; exact List.mem_map.2 ⟨e0, List.mem_of_getElem? h2, rfl⟩
      obtain ⟨⟨s', b⟩, hp, he⟩ := List.mem_map.1 hmem
      have hk : (Value.string s' : Value) = e0.key := congrArg Prod.fst he
      have hv : at0 b = e0.val := congrArg Prod.snd he
      rw [h3] at hk
      cases hk
      refine ⟨some b, .inl ⟨b, rfl, hp⟩, ?_, ?_⟩
      all_goals simp [Instr.lookup, run_underlying hmt, MapKept.run_getObj_map hb, hck, MapKept.run_findKey hkt h1, ← hv, Result.andThen, ptr, at0]

/-- 'm[s] = v', s new. -/
theorem run_put {P : Program} {W : World} {mb : Nat} {es : Array MapEntry} {clock : Nat} {Ps : List (ByteArray × Nat)} (hb : W.heap[mb]? = some (.map es clock)) (hes : es.toList.map kv = Ps.map pkv)
    {mt kt et : TypeId} (hmt : P.underlying mt = some (.map kt et)) (hkt : P.underlying kt = some .string) {s : ByteArray} (hs : s ∉ Ps.map (·.1)) (val : Value) :
    (Instr.mapUpdate mt (.map (some mb)) (.string s) val).run P W = .ok () (setBlock W mb (.map (es.push { key := .string s, val := val, born := clock }) (clock + 1))) := by
  have hck : ∀ em, (Instr.checkKey em 10000 kt (.string s)).run P W = .ok () W := fun em => MapKept.run_checkKey (k := .string s) hkt (by simp [MapKept.IsKey]) em 9999
  have hks : ∀ x ∈ es.toList, ∃ p ∈ Ps, x.key = .string p.1 := fun x hx => by
    have : kv x ∈ Ps.map pkv := by rw [← hes]; exact List.mem_map.2 ⟨x, hx, rfl⟩
    obtain ⟨p, hpm, hp⟩ := List.mem_map.1 this
    exact ⟨p, hpm, (congrArg Prod.fst hp).symm⟩
  rcases MapKept.findNow_spec (d := .string) (k := .string s) trivial es.toList 0 (fun x hx => by obtain ⟨p, _, e⟩ := hks x hx; rw [e]; trivial) with ⟨h1, h2⟩ | ⟨j, e0, h1, h2, h3⟩
  · simp [Instr.mapUpdate, run_underlying hmt, MapKept.run_getObj_map hb, hck, MapKept.run_findKey hkt h1, MapKept.run_setObj_map _ hb, Result.andThen, setBlock]
  · obtain ⟨p, hpm, e⟩ := hks e0 (List.mem_of_getElem? h2)
    rw [h3] at e
    cases e
    exact absurd (List.mem_map.2 ⟨_, hpm, rfl⟩) hs

/-! ### The states of a call of Chain -/
theorem tb_new (K : Kind) (w : World) : TB K (w.alloc (.cells #[K.T0, .slice none 0 0, .map none, .int .i64 0] K.tT)) w.heap.size [] none 0 0 none := by
  refine ⟨⟨_, blk_alloc_new _ _, rfl, fun i hi => ?_⟩, rfl, World.ownsRow_nil _ _ _ _, .inl ⟨rfl, rfl⟩, fun i p hp => by simp at hp, by simp⟩
  match i, hi with
  | 0, _ => rfl
  | 1, _ => rfl
  | 2, _ => rfl
  | 3, _ => rfl

theorem tb_map {K : Kind} {w : World} {tb cap : Nat} {ao : Option Addr} {m : Nat} (h : TB K w tb [] ao m cap none) :
    TB K ((w.setCell ⟨tb, 2, none⟩ (.map (some w.heap.size))).alloc (.map #[] 0)) tb [] ao m cap (some w.heap.size) := by
  have hlt := h.tab.lt
  have hs : (w.setCell ⟨tb, 2, none⟩ (.map (some w.heap.size))).heap.size = w.heap.size := by simp [World.setCell]
  refine ⟨((h.tab.set 2 (.map (some w.heap.size))).congr (g := tabv K ao m cap (some w.heap.size)) (fun i hi => ?_)).alloc _, h.hm, (ownsRow_setCell_below h.own (by show tb < tb + 1; omega) _).alloc _, .inr ⟨_, #[], 0, rfl, hlt, ?_, rfl⟩, fun i p hp => by simp at hp, by simp⟩
  · match i, hi with
    | 0, _ => rfl
    | 1, _ => rfl
    | 2, _ => rfl
    | 3, _ => rfl
  · have := blk_alloc_new (w.setCell ⟨tb, 2, none⟩ (.map (some w.heap.size))) (.map #[] 0)
    rw [hs] at this
    exact this

theorem tb_mid {K : Kind} {W w1 : World} {tb : Nat} {Ps : List (ByteArray × Nat)} {ao : Option Addr} {m cap mb : Nat} {o1 o2 : Obj} (h : TB K W tb Ps ao m cap (some mb))
    (hg : ((W.alloc o1).alloc o2).grownBy w1 (Value.slice ao m cap).ownBlock) :
    (∀ b, b < W.heap.size → (∀ c, W.heap[b]? ≠ some (.cells c K.tP (0, 0))) → w1.heap[b]? = W.heap[b]?) ∧ w1.rowIs tb K.tT 4 (tabv K ao m cap (some mb)) := by
  have hgen : ∀ b, b < W.heap.size → (∀ c, W.heap[b]? ≠ some (.cells c K.tP (0, 0))) → w1.heap[b]? = W.heap[b]? := fun b hb hn => by
    rw [hg.block b (by simp; omega) ?_, blk_alloc_lt _ _ _ (by simp; omega), blk_alloc_lt _ _ _ hb]
    intro e
    rcases h.own.2 with ⟨e2, _⟩ | ⟨g, c, cur, e2, _, h3, _⟩
    · rw [e2] at e; simp [Value.ownBlock] at e
    · rw [e2] at e
      simp only [Value.ownBlock, Option.some.injEq] at e
      subst e
      exact hn _ h3
  refine ⟨hgen, h.tab.of_block (hgen _ h.tab.lt fun c e => ?_)⟩
  obtain ⟨c', h', _⟩ := h.tab
  rw [h'] at e
  exact K.nT (by simp only [Option.some.injEq, Obj.cells.injEq] at e; exact e.2.1.symm)

theorem tb_added {K : Kind} {W w1 : World} {tb : Nat} {Ps : List (ByteArray × Nat)} {ao : Option Addr} {m cap mb g cap1 N : Nat} {es : Array MapEntry} {clock : Nat} {s : ByteArray} {C : Array Value} (h : TB K W tb Ps ao m cap (some mb))
    (hN : W.heap.size = N) (hes : W.heap[mb]? = some (.map es clock)) (hs : s ∉ Ps.map (·.1)) (hC : C.size = K.nC) (hCi : ∀ j, j < K.nC → C[j]? = some (K.cv s m j))
    (hg : ((W.alloc (.cells C K.tC)).alloc (.cells #[at0 N] K.tP)).grownBy w1 (Value.slice ao m cap).ownBlock)
    (hown : w1.ownsRow (tb + 1) K.tP 1 (.slice (some ⟨g, 0, none⟩) (m + 1) cap1) (m + 1) (ptrs Ps ++ [at0 N])) :
    TB K (setBlock (w1.setCell ⟨tb, 1, none⟩ (.slice (some ⟨g, 0, none⟩) (m + 1) cap1)) mb (.map (es.push { key := .string s, val := at0 N, born := clock }) (clock + 1))) tb (Ps ++ [(s, N)]) (some ⟨g, 0, none⟩) (m + 1) cap1 (some mb) ∧
    (w1.setCell ⟨tb, 1, none⟩ (.slice (some ⟨g, 0, none⟩) (m + 1) cap1)).heap[mb]? = some (.map es clock) ∧ es.toList.map kv = Ps.map pkv ∧
    Below tb W (setBlock (w1.setCell ⟨tb, 1, none⟩ (.slice (some ⟨g, 0, none⟩) (m + 1) cap1)) mb (.map (es.push { key := .string s, val := at0 N, born := clock }) (clock + 1))) := by
  obtain ⟨hgen, htab⟩ := tb_mid h hg
  have hlt := h.tab.lt
  have hs1 := hg.size
  simp at hs1
  rcases h.map with ⟨h0, _⟩ | ⟨mb', es', clock', h1, htm, h3, h4⟩
  · cases h0
  cases h1
  rw [hes] at h3
  cases h3
  have hmb : w1.heap[mb]? = some (.map es clock) := by rw [hgen mb (lt_of_heap hes) (fun c e => by rw [hes] at e; cases e)]; exact hes
  have hmb2 : (w1.setCell ⟨tb, 1, none⟩ (.slice (some ⟨g, 0, none⟩) (m + 1) cap1)).heap[mb]? = some (.map es clock) := by
    rw [Below.heap_setCell _ _ _ _ (by show mb ≠ tb; omega)]; exact hmb
  have hoth : ∀ b, b ≠ tb → b ≠ mb → (setBlock (w1.setCell ⟨tb, 1, none⟩ (.slice (some ⟨g, 0, none⟩) (m + 1) cap1)) mb (.map (es.push { key := .string s, val := at0 N, born := clock }) (clock + 1))).heap[b]? = w1.heap[b]? := fun b e1 e2 => by
    rw [heap_setBlock_other hmb2 _ e2, Below.heap_setCell _ _ _ _ e1]
  refine ⟨⟨?_, by simp [h.hm], ?_, .inr ⟨mb, _, _, rfl, htm, heap_setBlock_same hmb2 _, by simp [h4, kv, pkv]⟩, fun i p hp => ?_, ?_⟩, hmb2, h4, ?_⟩
  · refine ((htab.set 1 (.slice (some ⟨g, 0, none⟩) (m + 1) cap1)).congr (g := tabv K (some ⟨g, 0, none⟩) (m + 1) cap1 (some mb)) (fun i hi => ?_)).of_block (heap_setBlock_other hmb2 _ (by omega))
    match i, hi with
    | 0, _ => rfl
    | 1, _ => rfl
    | 2, _ => rfl
    | 3, _ => rfl
  · obtain ⟨hl, ho⟩ := hown
    refine ⟨by simp [ptrs, h.hm], ?_⟩
    rcases ho with ⟨e, _⟩ | ⟨g', c', cur, e, h5, h6, h7⟩
    · cases e
    · cases e
      refine .inr ⟨g, cap1, cur, rfl, h5, ?_, ?_⟩
      · rw [hoth g (by omega) (fun e => by rw [e, hmb] at h6; cases h6)]; exact h6
      · simpa [ptrs] using h7
  · by_cases hi : i < Ps.length
    · rw [List.getElem?_append_left hi] at hp
      obtain ⟨h5, h6⟩ := h.item i p hp
      refine ⟨h5, h6.of_block ?_⟩
      obtain ⟨c', h', _⟩ := h6
      rw [hoth p.2 (by omega) (fun e => by rw [e, hes] at h'; cases h'), hgen p.2 (lt_of_heap h') (fun c e => by rw [h'] at e; exact K.ne (by simp only [Option.some.injEq, Obj.cells.injEq] at e; exact e.2.1.symm))]
    · have hi2 : i = Ps.length := by
        have := (List.getElem?_eq_some_iff.1 hp).1
        simp at this; omega
      subst hi2
      simp at hp
      subst hp
      refine ⟨by show tb < N; omega, ?_⟩
      have hnew : ((W.alloc (.cells C K.tC)).alloc (.cells #[at0 N] K.tP)).rowIs N K.tC K.nC (K.cv s m) := by
        refine World.rowIs.alloc ?_ _
        exact ⟨C, by rw [← hN]; exact blk_alloc_new _ _, hC, hCi⟩
      rw [← h.hm]
      refine hnew.of_block ?_
      show (setBlock _ mb _).heap[N]? = _
      rw [hoth N (by omega) (fun e => by have := lt_of_heap hes; omega)]
      refine hg.block N hnew.lt (fun e => ?_)
      have := (h.own.lt N e.symm).2
      omega
  · rw [List.map_append, List.nodup_append]
    refine ⟨h.nodup, by simp, fun a ha b hb => ?_⟩
    simp at hb
    subst hb
    exact fun e => hs (e ▸ ha)
  · refine ⟨hg.os, hg.tape, hg.output, by simp [setBlock, World.setCell]; omega, fun k hk => ?_⟩
    rw [hoth k (by omega) (by omega), hg.block k (by simp; omega) (fun e => by have := (h.own.lt k e.symm).1; omega), blk_alloc_lt _ _ _ (by simp; omega), blk_alloc_lt _ _ _ (by omega)]

end Go.Proofs.Qxb6001663a
