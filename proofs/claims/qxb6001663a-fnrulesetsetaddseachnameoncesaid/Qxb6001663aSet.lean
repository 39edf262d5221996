/-
  THE WALKS OF (*Ruleset).Set (26), (*Set).Name (27), (*Ruleset).LookupSet (28), (*Ruleset).Sets (29), (*Ruleset).Tables (30), and zzBytes_FnRulesetSetAddsEachNameOnce (25). (As Chain's.)
-/
import Derived.Test.Qxb6001663aChain
namespace Go.Proofs.Qxb6001663a
open Go.RowKit Go.ChangeMaps

theorem Try.info58 : (Try.prog.info? 58).map (fun i => (i.zero, i.size, i.bytes)) = some (some (.pointer none), 1, 8) := by kernel_rfl
theorem Try.has62 : (Try.prog.info? 62).isSome = true := by kernel_rfl
theorem neq58 (w : World) (a : Addr) : (binOp .neq 58 (.pointer (some a)) (.pointer (some a))).run Try.prog w = .ok (.bool false) w := by
  obtain ⟨j, hj⟩ := Option.isSome_iff_exists.1 Try.has62
  exact run_neq_ptr_same w a Try.underlying58 hj

def setv (s : ByteArray) (i : Nat) : Nat → Value
  | 0 => .string s
  | 1 => .int .i64 i
  | 2 => .string ⟨#[]⟩
  | _ => .slice none 0 0
def KS : Kind := ⟨.slice none 0 0, 57, 62, 58, 5, setv, by decide, by decide⟩

set_option maxHeartbeats 1000000 in
theorem bytesR_any (ga : Option Addr) (gb go n Gc : Nat) (nm : Nat → ByteArray) (q : ByteArray) (w : World) (hg : SV w ga gb go n nm) (hq : q.size ≤ 9223372036854775807) :
    Calls Try.prog 25 #[.slice ga n Gc, .string q] w fun e w' => BE AnyB e ∧ w' = w := by
  have hnb := hg.nb
  by_cases hn : (n : Int) ≤ 1048576
  · go_enter Try.func25, Try.ntmps25
    go_wp2
    go_loop [5, 6] (fun t i => ∃ (k : Nat) (z : Int), k ≤ n ∧ i = .int .i64 k ∧ t = .int .i64 z ∧ 0 ≤ z ∧ z ≤ 1048576) (fun _ i => n - (intOf i).toNat)
    case atStart => exact ⟨0, n, Nat.zero_le _, rfl, rfl, by omega, by omega⟩
    case round =>
      obtain ⟨k, z, hk, rfl, rfl, hz0, hz1⟩ := hrel
      by_cases hlt : k < n
      · obtain rfl := hg.hga (by omega)
        have hrow := hg.cell k hlt
        have hlb := hg.sb k hlt
        have hltz : (k : Int) < (n : Int) := by omega
        clear hg
        by_cases hL : ((nm k).size : Int) ≤ 1048576
        · by_cases hs : z + ((nm k).size : Int) ≤ 1048576
          · go_wp2
            go_round
            case rel => exact ⟨k + 1, z + ((nm k).size : Int), by omega, by go_num, rfl, by omega, by omega⟩
            case measure => simp [intOf]; omega
          · go_wp2
            go_ret
            exact ⟨BE.mk false trivial, rfl⟩
        · go_wp2
          go_ret
          exact ⟨BE.mk false trivial, rfl⟩
      · have hltz : ¬ (k : Int) < (n : Int) := by omega
        by_cases hL : (q.size : Int) ≤ 1048576
        · by_cases hs : z + (q.size : Int) ≤ 1048576
          · go_wp2
            go_ret
            exact ⟨BE.mk true trivial, rfl⟩
          · go_wp2
            go_ret
            exact ⟨BE.mk false trivial, rfl⟩
        · go_wp2
          go_ret
          exact ⟨BE.mk false trivial, rfl⟩
  · go_enter Try.func25, Try.ntmps25
    go_wp2
    go_ret
    exact ⟨BE.mk false trivial, rfl⟩

theorem nameS_any (b : Nat) (s : ByteArray) (w : World) (hc : w.cell? ⟨b, 0, none⟩ = some (.string s)) :
    Calls Try.prog 27 #[.pointer (some ⟨b, 0, none⟩)] w fun e w' => e = .returned (.string s) ∧ w' = w := by
  go_enter Try.func27, Try.ntmps27
  go_wp2
  go_ret
  exact ⟨rfl, rfl⟩

theorem lookS_any (tb : Nat) (Ps : List (ByteArray × Nat)) (ao : Option Addr) (m cap : Nat) (mo : Option Nat) (s : ByteArray) (w : World) (h : TB KS w tb Ps ao m cap mo) :
    Calls Try.prog 28 #[.pointer (some ⟨tb, 0, none⟩), .string s] w fun e w' => LE Ps s e ∧ w' = w := by
  obtain ⟨o, hr, _, hl⟩ := run_look (P := Try.prog) h Try.underlying55 Try.underlying9 (zero_of Try.info58 w) s
  have c2 : w.cell? ⟨tb, 2, none⟩ = some (.map mo) := h.tab.cell (by decide)
  clear h
  generalize hv : ptr o = v at *
  have HV : Hid (ptr o = v) := hv
  clear hv
  go_enter Try.func28, Try.ntmps28
  go_wp2
  go_ret
  exact ⟨⟨o, by rw [HV.out]; rfl, hr⟩, rfl⟩

theorem setsS_any (tb : Nat) (Ps : List (ByteArray × Nat)) (ao : Option Addr) (m cap : Nat) (mo : Option Nat) (w : World) (h : TB KS w tb Ps ao m cap mo) :
    Calls Try.prog 29 #[.pointer (some ⟨tb, 0, none⟩)] w fun e w' => e = .returned (.slice ao m cap) ∧ w' = w := by
  have c1 : w.cell? ⟨tb, 1, none⟩ = some (.slice ao m cap) := h.tab.cell (by decide)
  clear h
  go_enter Try.func29, Try.ntmps29
  go_wp2
  go_ret
  exact ⟨rfl, rfl⟩

theorem tables_any (tb : Nat) (Ps : List (ByteArray × Nat)) (ao : Option Addr) (m cap : Nat) (mo : Option Nat) (w : World) (h : TB KS w tb Ps ao m cap mo) :
    Calls Try.prog 30 #[.pointer (some ⟨tb, 0, none⟩)] w fun e w' => e = .returned (.slice none 0 0) ∧ w' = w := by
  have c1 : w.cell? ⟨tb, 0, none⟩ = some (.slice none 0 0) := h.tab.cell (by decide)
  clear h
  go_enter Try.func30, Try.ntmps30
  go_wp2
  go_ret
  exact ⟨rfl, rfl⟩

theorem setv_cells (s : ByteArray) (m : Nat) : ∀ j, j < 5 → (#[Value.string s, .int .i64 m, .string ⟨#[]⟩, .slice none 0 0, .slice none 0 0] : Array Value)[j]? = some (setv s m j) := fun j hj => by
  match j, hj with
  | 0, _ => rfl
  | 1, _ => rfl
  | 2, _ => rfl
  | 3, _ => rfl
  | 4, _ => rfl

set_option maxHeartbeats 1000000 in
set_option maxRecDepth 1000000 in
theorem putS_any (tb : Nat) (Ps : List (ByteArray × Nat)) (ao : Option Addr) (m cap : Nat) (mo : Option Nat) (s : ByteArray) (w : World) (h : TB KS w tb Ps ao m cap mo) (hm : m ≤ 1048576) :
    Calls Try.prog 26 #[.pointer (some ⟨tb, 0, none⟩), .string s] w fun e w' => PE (Put KS tb Ps s) e w' ∧ Below tb w w' := by
  obtain ⟨i0, hi, hz0, hz1, hz2⟩ := info_parts Try.info58
  obtain ⟨o, hr, hl, _⟩ := run_look (P := Try.prog) h Try.underlying55 Try.underlying9 (zero_of Try.info58 w) s
  have c1 : w.cell? ⟨tb, 1, none⟩ = some (.slice ao m cap) := h.tab.cell (by decide)
  have c2 : w.cell? ⟨tb, 2, none⟩ = some (.map mo) := h.tab.cell (by decide)
  have f1 : w.frozen? ⟨tb, 1, none⟩ = false := h.tab.frozen 1
  have f2 : w.frozen? ⟨tb, 2, none⟩ = false := h.tab.frozen 2
  have htb := h.tab.lt
  rcases hr with ⟨b, rfl, hb⟩ | ⟨rfl, hn⟩
  · simp only [ptr, Option.map_some, Option.isSome_some] at hl
    have HH : Hid (TB KS w tb Ps ao m cap mo) := h
    have HB : Hid ((s, b) ∈ Ps) := hb
    clear h hb
    go_enter Try.func26, Try.ntmps26
    go_wp2
    go_ret
    exact ⟨⟨b, rfl, Ps, ao, m, cap, mo, HH.out, HB.out, .inl ⟨List.mem_map.2 ⟨_, HB.out, rfl⟩, rfl⟩⟩, Below.refl _ _⟩
  · simp only [ptr, Option.map_none, Option.isSome_none] at hl
    have HNs : Hid (s ∉ Ps.map (·.1)) := hn
    clear hn
    have hnil := fun W => run_eql_map_nil (P := Try.prog) W 55 9 58 mo Try.underlying55
    cases mo with
    | some mb =>
      simp only [Option.isNone_some] at hnil
      have HH : Hid (TB KS w tb Ps ao m cap (some mb)) := h
      clear h
      obtain ⟨es, clock, hes⟩ := HH.out.mapAt
      have HES : Hid (w.heap[mb]? = some (.map es clock)) := hes
      clear hes
      go_enter Try.func26, Try.ntmps26
      go_wp2_with (at_builtin; go_must (refine wpList_append_lies _ rfl _ _ 54 rfl (tb + 1) 58 i0 (.pointer none) 1 8 Try.underlying54 hi hz0 hz1 hz2 rfl (by decide) (.slice ao m cap) m _ rfl ((HH.out.own.alloc _).alloc _) ⟨w.heap.size + 1, 0, none⟩ 1 1 [at0 w.heap.size] rfl rfl (one_new (by simp) _ _) (oneCell_at0 _) (by decide) (by unfold maxLen; omega) (by omega) (by simp; omega) (w.heap.size + 2) (by simp) ?_); intro g cap1 w1 hown hgrow hat hlt; have hq := tb_added (C := #[.string s, .int .i64 m, .string ⟨#[]⟩, .slice none 0 0, .slice none 0 0]) HH.out rfl HES.out HNs.out rfl (setv_cells s m) hgrow hown; have d0 := (tb_mid HH.out hgrow).2; have d1 : w1.cell? ⟨tb, 1, none⟩ = some (.slice ao m cap) := d0.cell (by decide); have d2 : w1.cell? ⟨tb, 2, none⟩ = some (.map (some mb)) := d0.cell (by decide); have d3 : w1.frozen? ⟨tb, 1, none⟩ = false := d0.frozen 1; have hmu := run_put (P := Try.prog) hq.2.1 hq.2.2.1 Try.underlying55 Try.underlying9 HNs.out (.pointer (some ⟨w.heap.size, 0, none⟩)); have HQ : Hid _ := hq; clear hq d0 hown hgrow hat hlt)
      go_ret
      exact ⟨⟨w.heap.size, rfl, _, _, _, _, _, HQ.out.1, by simp, .inr ⟨HNs.out, rfl⟩⟩, HQ.out.2.2.2⟩
    | none =>
      simp only [Option.isNone_none] at hnil
      have hP : Ps = [] := h.map_none
      subst hP
      have HH : Hid (TB KS ((w.setCell ⟨tb, 2, none⟩ (.map (some w.heap.size))).alloc (.map #[] 0)) tb [] ao m cap (some w.heap.size)) := tb_map h
      clear h
      obtain ⟨es, clock, hes⟩ := HH.out.mapAt
      have HES : Hid (((w.setCell ⟨tb, 2, none⟩ (.map (some w.heap.size))).alloc (.map #[] 0)).heap[w.heap.size]? = some (.map es clock)) := hes
      clear hes
      have hmm := @run_makeMap Try.prog
      have hsz : ((w.setCell ⟨tb, 2, none⟩ (.map (some w.heap.size))).alloc (.map #[] 0)).heap.size = w.heap.size + 1 := by simp [World.setCell]
      have HSZ : Hid (((w.setCell ⟨tb, 2, none⟩ (.map (some w.heap.size))).alloc (.map #[] 0)).heap.size = w.heap.size + 1) := hsz
      clear hsz
      go_enter Try.func26, Try.ntmps26
      go_wp2_with (at_builtin; go_must (refine wpList_append_lies _ rfl _ _ 54 rfl (tb + 1) 58 i0 (.pointer none) 1 8 Try.underlying54 hi hz0 hz1 hz2 rfl (by decide) (.slice ao m cap) m _ rfl ((HH.out.own.alloc _).alloc _) ⟨w.heap.size + 2, 0, none⟩ 1 1 [at0 (w.heap.size + 1)] rfl rfl (one_new (by simp [World.setCell]) _ _) (oneCell_at0 _) (by decide) (by unfold maxLen; omega) (by omega) (by simp [World.setCell]; omega) (w.heap.size + 3) (by simp [World.setCell]) ?_); intro g cap1 w1 hown hgrow hat hlt; have hq := tb_added (C := #[.string s, .int .i64 m, .string ⟨#[]⟩, .slice none 0 0, .slice none 0 0]) HH.out HSZ.out HES.out HNs.out rfl (setv_cells s m) hgrow hown; have d0 := (tb_mid HH.out hgrow).2; have d1 : w1.cell? ⟨tb, 1, none⟩ = some (.slice ao m cap) := d0.cell (by decide); have d2 : w1.cell? ⟨tb, 2, none⟩ = some (.map (some w.heap.size)) := d0.cell (by decide); have d3 : w1.frozen? ⟨tb, 1, none⟩ = false := d0.frozen 1; have hmu := run_put (P := Try.prog) hq.2.1 hq.2.2.1 Try.underlying55 Try.underlying9 HNs.out (.pointer (some ⟨w.heap.size + 1, 0, none⟩)); have HQ : Hid _ := hq; clear hq d0 hown hgrow hat hlt)
      go_ret
      exact ⟨⟨w.heap.size + 1, rfl, _, _, _, _, _, HQ.out.1, by simp, .inr ⟨HNs.out, rfl⟩⟩, (below_mapped htb _ _).trans HQ.out.2.2.2⟩

end Go.Proofs.Qxb6001663a
