/-
  THE WALKS OF (*Table).Chain (19), (*Chain).Name (20), (*Table).Lookup (21), (*Table).Chains (22).
-/
import Derived.Test.Qxb6001663aZz
import Derived.LaidEqlPtr
namespace Go.Proofs.Qxb6001663a
open Go.RowKit Go.ChangeMaps

theorem Try.info34 : (Try.prog.info? 34).map (fun i => (i.zero, i.size, i.bytes)) = some (some (.pointer none), 1, 8) := by kernel_rfl
theorem zero_of {t : TypeId} (h : (Try.prog.info? t).map (fun i => (i.zero, i.size, i.bytes)) = some (some (.pointer none), 1, 8)) (w : World) : (zeroValue t).run Try.prog w = .ok (.pointer none) w := by
  obtain ⟨i, hi, hz, _, _⟩ := info_parts h
  simp [zeroValue, typeInfo, hi, hz]

theorem run_neq_ptr_same {P : Program} (w : World) {tp te : TypeId} {j : TypeInfo} (a : Addr) (hp : P.underlying tp = some (.pointer te)) (hte : P.info? te = some j) :
    (binOp .neq tp (.pointer (some a)) (.pointer (some a))).run P w = .ok (.bool false) w := by
  have h : ∀ d : Nat, (Op.equalIn (d + 1) tp (.pointer (some a)) (.pointer (some a))).run P w = .ok true w := fun d => by
    simp [Op.equalIn, run_underlying hp, sizeOf, typeInfo, hte, run_sameAddr_same]
  simp only [binOp]
  simp [Op.equal, Op.maxDepth, h 9999]
theorem Try.has41 : (Try.prog.info? 41).isSome = true := by kernel_rfl
theorem neq34 (w : World) (a : Addr) : (binOp .neq 34 (.pointer (some a)) (.pointer (some a))).run Try.prog w = .ok (.bool false) w := by
  obtain ⟨j, hj⟩ := Option.isSome_iff_exists.1 Try.has41
  exact run_neq_ptr_same w a Try.underlying34 hj

def chv (s : ByteArray) (i : Nat) : Nat → Value
  | 0 => .string s
  | 1 => .int .i64 i
  | 2 => .string ⟨#[]⟩
  | 3 => .int .u64 0
  | 4 => .int .u64 0
  | _ => .slice none 0 0
def KT : Kind := ⟨.string ⟨#[]⟩, 47, 41, 34, 6, chv, by decide, by decide⟩

/-- An ending that hands back a pointer. -/
def PE (p : Nat → World → Prop) (e : Ending) (w' : World) : Prop := ∃ b : Nat, e = .returned (.pointer (some ⟨b, 0, none⟩)) ∧ p b w'

/-- What Chain(s) has done. -/
def Put (K : Kind) (tb : Nat) (Ps : List (ByteArray × Nat)) (s : ByteArray) : Nat → World → Prop := fun b w' =>
  ∃ (Ps' : List (ByteArray × Nat)) (ao : Option Addr) (m cap : Nat) (mo : Option Nat), TB K w' tb Ps' ao m cap mo ∧ (s, b) ∈ Ps' ∧ ((s ∈ Ps.map (·.1) ∧ Ps' = Ps) ∨ (s ∉ Ps.map (·.1) ∧ Ps' = Ps ++ [(s, b)]))

theorem name_any (b : Nat) (s : ByteArray) (w : World) (hc : w.cell? ⟨b, 0, none⟩ = some (.string s)) :
    Calls Try.prog 20 #[.pointer (some ⟨b, 0, none⟩)] w fun e w' => e = .returned (.string s) ∧ w' = w := by
  go_enter Try.func20, Try.ntmps20
  go_wp2
  go_ret
  exact ⟨rfl, rfl⟩

/-- An ending of a look-up. -/
def LE (Ps : List (ByteArray × Nat)) (s : ByteArray) (e : Ending) : Prop := ∃ o : Option Nat, e = .returned (ptr o) ∧ Res Ps s o

theorem look_any (tb : Nat) (Ps : List (ByteArray × Nat)) (ao : Option Addr) (m cap : Nat) (mo : Option Nat) (s : ByteArray) (w : World) (h : TB KT w tb Ps ao m cap mo) :
    Calls Try.prog 21 #[.pointer (some ⟨tb, 0, none⟩), .string s] w fun e w' => LE Ps s e ∧ w' = w := by
  obtain ⟨o, hr, _, hl⟩ := run_look (P := Try.prog) h Try.underlying45 Try.underlying9 (zero_of Try.info34 w) s
  have c2 : w.cell? ⟨tb, 2, none⟩ = some (.map mo) := h.tab.cell (by decide)
  clear h
  generalize hv : ptr o = v at *
  have HV : Hid (ptr o = v) := hv
  clear hv
  go_enter Try.func21, Try.ntmps21
  go_wp2
  go_ret
  exact ⟨⟨o, by rw [HV.out]; rfl, hr⟩, rfl⟩

theorem chains_any (tb : Nat) (Ps : List (ByteArray × Nat)) (ao : Option Addr) (m cap : Nat) (mo : Option Nat) (w : World) (h : TB KT w tb Ps ao m cap mo) :
    Calls Try.prog 22 #[.pointer (some ⟨tb, 0, none⟩)] w fun e w' => e = .returned (.slice ao m cap) ∧ w' = w := by
  have c1 : w.cell? ⟨tb, 1, none⟩ = some (.slice ao m cap) := h.tab.cell (by decide)
  clear h
  go_enter Try.func22, Try.ntmps22
  go_wp2
  go_ret
  exact ⟨rfl, rfl⟩

theorem one_new {w : World} {N : Nat} (h : w.heap.size = N) (x : Value) (t : TypeId) : ∀ j u, [x][j]? = some u → (w.alloc (.cells #[x] t)).cell? ((⟨N, 0, none⟩ : Addr).add j) = some u := by
  subst h; exact cell_one_new w x t
theorem oneCell_at0 (b : Nat) : ∀ u ∈ [at0 b], u.oneCell' = true := by intro u hu; simp at hu; subst hu; rfl

theorem chv_cells (s : ByteArray) (m : Nat) : ∀ j, j < 6 → (#[Value.string s, .int .i64 m, .string ⟨#[]⟩, .int .u64 0, .int .u64 0, .slice none 0 0] : Array Value)[j]? = some (chv s m j) := fun j hj => by
  match j, hj with
  | 0, _ => rfl
  | 1, _ => rfl
  | 2, _ => rfl
  | 3, _ => rfl
  | 4, _ => rfl
  | 5, _ => rfl

theorem below_mapped {tb : Nat} {w : World} (h : tb < w.heap.size) (v : Value) (o : Obj) : Below tb w ((w.setCell ⟨tb, 2, none⟩ v).alloc o) :=
  ((Below.refl tb w).setCell (p := ⟨tb, 2, none⟩) (Nat.le_refl _) v).alloc (by simp [World.setCell]; omega) o
theorem TB.mapAt {K : Kind} {w : World} {tb : Nat} {Ps : List (ByteArray × Nat)} {ao : Option Addr} {m cap mb : Nat} (h : TB K w tb Ps ao m cap (some mb)) : ∃ es clock, w.heap[mb]? = some (.map es clock) := by
  rcases h.map with ⟨h0, _⟩ | ⟨mb', es, clock, h1, _, h3, _⟩
  · cases h0
  · cases h1; exact ⟨es, clock, h3⟩
theorem TB.map_none {K : Kind} {w : World} {tb : Nat} {Ps : List (ByteArray × Nat)} {ao : Option Addr} {m cap : Nat} (h : TB K w tb Ps ao m cap none) : Ps = [] := by
  rcases h.map with ⟨_, h0⟩ | ⟨mb', es, clock, h1, _⟩
  · exact h0
  · cases h1

set_option maxHeartbeats 1000000 in
set_option maxRecDepth 1000000 in
theorem chain_any (tb : Nat) (Ps : List (ByteArray × Nat)) (ao : Option Addr) (m cap : Nat) (mo : Option Nat) (s : ByteArray) (w : World) (h : TB KT w tb Ps ao m cap mo) (hm : m ≤ 1048576) :
    Calls Try.prog 19 #[.pointer (some ⟨tb, 0, none⟩), .string s] w fun e w' => PE (Put KT tb Ps s) e w' ∧ Below tb w w' := by
  obtain ⟨i0, hi, hz0, hz1, hz2⟩ := info_parts Try.info34
  obtain ⟨o, hr, hl, _⟩ := run_look (P := Try.prog) h Try.underlying45 Try.underlying9 (zero_of Try.info34 w) s
  have c1 : w.cell? ⟨tb, 1, none⟩ = some (.slice ao m cap) := h.tab.cell (by decide)
  have c2 : w.cell? ⟨tb, 2, none⟩ = some (.map mo) := h.tab.cell (by decide)
  have f1 : w.frozen? ⟨tb, 1, none⟩ = false := h.tab.frozen 1
  have f2 : w.frozen? ⟨tb, 2, none⟩ = false := h.tab.frozen 2
  have htb := h.tab.lt
  rcases hr with ⟨b, rfl, hb⟩ | ⟨rfl, hn⟩
  · simp only [ptr, Option.map_some, Option.isSome_some] at hl
    have HH : Hid (TB KT w tb Ps ao m cap mo) := h
    have HB : Hid ((s, b) ∈ Ps) := hb
    clear h hb
    go_enter Try.func19, Try.ntmps19
    go_wp2
    go_ret
    exact ⟨⟨b, rfl, Ps, ao, m, cap, mo, HH.out, HB.out, .inl ⟨List.mem_map.2 ⟨_, HB.out, rfl⟩, rfl⟩⟩, Below.refl _ _⟩
  · simp only [ptr, Option.map_none, Option.isSome_none] at hl
    have HNs : Hid (s ∉ Ps.map (·.1)) := hn
    clear hn
    have hnil := fun W => run_eql_map_nil (P := Try.prog) W 45 9 34 mo Try.underlying45
    cases mo with
    | some mb =>
      simp only [Option.isNone_some] at hnil
      have HH : Hid (TB KT w tb Ps ao m cap (some mb)) := h
      clear h
      obtain ⟨es, clock, hes⟩ := HH.out.mapAt
      have HES : Hid (w.heap[mb]? = some (.map es clock)) := hes
      clear hes
      go_enter Try.func19, Try.ntmps19
      go_wp2_with (at_builtin; go_must (refine wpList_append_lies _ rfl _ _ 31 rfl (tb + 1) 34 i0 (.pointer none) 1 8 Try.underlying31 hi hz0 hz1 hz2 rfl (by decide) (.slice ao m cap) m _ rfl ((HH.out.own.alloc _).alloc _) ⟨w.heap.size + 1, 0, none⟩ 1 1 [at0 w.heap.size] rfl rfl (one_new (by simp) _ _) (oneCell_at0 _) (by decide) (by unfold maxLen; omega) (by omega) (by simp; omega) (w.heap.size + 2) (by simp) ?_); intro g cap1 w1 hown hgrow hat hlt; have hq := tb_added (C := #[.string s, .int .i64 m, .string ⟨#[]⟩, .int .u64 0, .int .u64 0, .slice none 0 0]) HH.out rfl HES.out HNs.out rfl (chv_cells s m) hgrow hown; have d0 := (tb_mid HH.out hgrow).2; have d1 : w1.cell? ⟨tb, 1, none⟩ = some (.slice ao m cap) := d0.cell (by decide); have d2 : w1.cell? ⟨tb, 2, none⟩ = some (.map (some mb)) := d0.cell (by decide); have d3 : w1.frozen? ⟨tb, 1, none⟩ = false := d0.frozen 1; have hmu := run_put (P := Try.prog) hq.2.1 hq.2.2.1 Try.underlying45 Try.underlying9 HNs.out (.pointer (some ⟨w.heap.size, 0, none⟩)); have HQ : Hid _ := hq; clear hq d0 hown hgrow hat hlt)
      go_ret
      exact ⟨⟨w.heap.size, rfl, _, _, _, _, _, HQ.out.1, by simp, .inr ⟨HNs.out, rfl⟩⟩, HQ.out.2.2.2⟩
    | none =>
      simp only [Option.isNone_none] at hnil
      have hP : Ps = [] := h.map_none
      subst hP
      have HH : Hid (TB KT ((w.setCell ⟨tb, 2, none⟩ (.map (some w.heap.size))).alloc (.map #[] 0)) tb [] ao m cap (some w.heap.size)) := tb_map h
      clear h
      obtain ⟨es, clock, hes⟩ := HH.out.mapAt
      have HES : Hid (((w.setCell ⟨tb, 2, none⟩ (.map (some w.heap.size))).alloc (.map #[] 0)).heap[w.heap.size]? = some (.map es clock)) := hes
      clear hes
      have hmm := @run_makeMap Try.prog
      have hsz : ((w.setCell ⟨tb, 2, none⟩ (.map (some w.heap.size))).alloc (.map #[] 0)).heap.size = w.heap.size + 1 := by simp [World.setCell]
      have HSZ : Hid (((w.setCell ⟨tb, 2, none⟩ (.map (some w.heap.size))).alloc (.map #[] 0)).heap.size = w.heap.size + 1) := hsz
      clear hsz
      go_enter Try.func19, Try.ntmps19
      go_wp2_with (at_builtin; go_must (refine wpList_append_lies _ rfl _ _ 31 rfl (tb + 1) 34 i0 (.pointer none) 1 8 Try.underlying31 hi hz0 hz1 hz2 rfl (by decide) (.slice ao m cap) m _ rfl ((HH.out.own.alloc _).alloc _) ⟨w.heap.size + 2, 0, none⟩ 1 1 [at0 (w.heap.size + 1)] rfl rfl (one_new (by simp [World.setCell]) _ _) (oneCell_at0 _) (by decide) (by unfold maxLen; omega) (by omega) (by simp [World.setCell]; omega) (w.heap.size + 3) (by simp [World.setCell]) ?_); intro g cap1 w1 hown hgrow hat hlt; have hq := tb_added (C := #[.string s, .int .i64 m, .string ⟨#[]⟩, .int .u64 0, .int .u64 0, .slice none 0 0]) HH.out HSZ.out HES.out HNs.out rfl (chv_cells s m) hgrow hown; have d0 := (tb_mid HH.out hgrow).2; have d1 : w1.cell? ⟨tb, 1, none⟩ = some (.slice ao m cap) := d0.cell (by decide); have d2 : w1.cell? ⟨tb, 2, none⟩ = some (.map (some w.heap.size)) := d0.cell (by decide); have d3 : w1.frozen? ⟨tb, 1, none⟩ = false := d0.frozen 1; have hmu := run_put (P := Try.prog) hq.2.1 hq.2.2.1 Try.underlying45 Try.underlying9 HNs.out (.pointer (some ⟨w.heap.size + 1, 0, none⟩)); have HQ : Hid _ := hq; clear hq d0 hown hgrow hat hlt)
      go_ret
      exact ⟨⟨w.heap.size + 1, rfl, _, _, _, _, _, HQ.out.1, by simp, .inr ⟨HNs.out, rfl⟩⟩, (below_mapped htb _ _).trans HQ.out.2.2.2⟩

end Go.Proofs.Qxb6001663a
