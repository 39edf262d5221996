/-
  THE WALKS OF zzAllowArgsOK (18), grant (31), allow (29).
-/
import Derived.Test.Qxb6000090aTree
import Derived.BigRegion
namespace Go.Proofs.Qxb6000090a
open Go.RowKit

def ArgsB (l0 l1 l2 l3 l4 : Nat) (lv par en : Nat → Int) (k : Int) : Bool → Prop := fun b => b = true → l1 = l0 ∧ l2 = l0 ∧ l3 = l0 ∧ l4 = l0 ∧ Tr.Tree l0 lv par en ∧ 0 ≤ k ∧ k < (l0 : Int)
theorem argsB_no {l0 l1 l2 l3 l4 : Nat} {lv par en : Nat → Int} {k : Int} : ArgsB l0 l1 l2 l3 l4 lv par en k false := fun h => by cases h

set_option maxHeartbeats 1000000 in
theorem args18 (a0 a1 a2 a3 a4 : Option Addr) (b0 o0 b1 o1 b2 o2 l0 l1 l2 l3 l4 c0 c1 c2 c3 c4 : Nat) (lv par en : Nat → Int) (k : Int) (w : World)
    (h0 : RowV w .i64 a0 b0 o0 l0 lv) (h1 : RowV w .i64 a1 b1 o1 l1 par) (h2 : RowV w .i64 a2 b2 o2 l2 en) (hl0 : l0 ≤ 4096) (hl1 : l1 ≤ 4096) (hl2 : l2 ≤ 4096) (hlv : ∀ i, i < l0 → lv i ≤ 9223372036854775807) :
    Calls Try.prog 18 #[.slice a0 l0 c0, .slice a1 l1 c1, .slice a2 l2 c2, .slice a3 l3 c3, .slice a4 l4 c4, .int .i64 k] w fun e w' => BE (ArgsB l0 l1 l2 l3 l4 lv par en k) e ∧ Below w.heap.size w w' := by
  have HT := tree28 a0 a1 a2 b0 o0 b1 o1 b2 o2 l0 l1 l2 c0 c1 c2 lv par en w h0 h1 h2 hl0 hl1 hl2 hlv
  have HH : Hid (Calls Try.prog 28 #[.slice a0 l0 c0, .slice a1 l1 c1, .slice a2 l2 c2] w fun e w' => BE (TreeB l0 l1 l2 lv par en) e ∧ Below w.heap.size w w') := HT
  clear HT h0 h1 h2 hlv
  go_enter Try.func18, Try.ntmps18
  go_wp2_with fail
  refine HH.out.mono ?_
  rintro e w1 ⟨⟨b, rfl, hb⟩, hbl⟩
  have HB : Hid (Below w.heap.size w w1) := hbl
  clear hbl HH
  cases b
  · go_wp2_with fail
    go_ret
    exact ⟨BE.mk _ argsB_no, HB.out⟩
  have HT : Hid (l1 = l0 ∧ l2 = l0 ∧ Tr.Tree l0 lv par en) := hb rfl
  clear hb
  by_cases e3 : l3 = l0
  rotate_left
  · have e3z : ((l3 : Int) != (l0 : Int)) = true := by simp; omega
    go_wp2_with fail
    go_ret
    exact ⟨BE.mk _ argsB_no, HB.out⟩
  have e3z : ((l3 : Int) != (l0 : Int)) = false := by simp; omega
  have E3 : Hid (l3 = l0) := e3
  clear e3
  by_cases e4 : l4 = l0
  rotate_left
  · have e4z : ((l4 : Int) != (l0 : Int)) = true := by simp; omega
    go_wp2_with fail
    go_ret
    exact ⟨BE.mk _ argsB_no, HB.out⟩
  have e4z : ((l4 : Int) != (l0 : Int)) = false := by simp; omega
  have E4 : Hid (l4 = l0) := e4
  clear e4
  by_cases hk : 0 ≤ k
  rotate_left
  · have hkz : decide (0 ≤ k) = false := by simpa using hk
    go_wp2_with fail
    go_ret
    exact ⟨BE.mk _ argsB_no, HB.out⟩
  by_cases hk2 : k < (l0 : Int)
  rotate_left
  · have hkz : decide (k < (l0 : Int)) = false := by simpa using hk2
    go_wp2_with fail
    go_ret
    exact ⟨BE.mk _ argsB_no, HB.out⟩
  have HR : Hid (ArgsB l0 l1 l2 l3 l4 lv par en k true) := fun _ => ⟨HT.out.1, HT.out.2.1, E3.out, E4.out, HT.out.2.2, hk, hk2⟩
  go_wp2_with fail
  go_ret
  exact ⟨BE.mk _ HR.out, HB.out⟩

set_option maxHeartbeats 1000000 in
/-- One state's two cells behind a grant. -/
theorem grant31 (b o : Nat) (d g m : Int) (w : World) (hd : w.cell? ⟨b, o, none⟩ = some (.int .u32 d)) (hg : w.cell? ⟨b, o + 1, none⟩ = some (.int .u32 g)) (fd : w.frozen? ⟨b, o, none⟩ = false) (fg : w.frozen? ⟨b, o + 1, none⟩ = false) :
    Calls Try.prog 31 #[.pointer (some ⟨b, o, none⟩), .int .u32 m] w fun e w' => e = .returned (.tuple #[]) ∧ w' = ((w.setCell ⟨b, o + 1, none⟩ (.int .u32 (bits .or .u32 g (bits .andNot .u32 m d)))).setCell ⟨b, o, none⟩ (.int .u32 (bits .or .u32 d m))).drew := by
  go_enter Try.func31, Try.ntmps31
  go_wp2_with fail
  go_region
  go_wp2_with fail
  go_end0
  exact ⟨rfl, rfl⟩

/-! ### The memory of allow -/
def stv (D G : Nat → Int) : Nat → Value := fun j => .int .u32 (if j % 2 = 0 then D (j / 2) else G (j / 2))
theorem stv_d (D G : Nat → Int) (i : Nat) : stv D G (i * 2) = .int .u32 (D i) := by
  unfold stv; rw [if_pos (by omega), show i * 2 / 2 = i by omega]
theorem stv_g (D G : Nat → Int) (i : Nat) : stv D G (i * 2 + 1) = .int .u32 (G i) := by
  unfold stv; rw [if_neg (by omega), show (i * 2 + 1) / 2 = i by omega]

/-- The list's nodes, read only. -/
structure LV (w : World) (lb nb n : Nat) (par en : Nat → Int) : Prop where
  top : w.cell? ⟨lb, 0, none⟩ = some (.slice (some ⟨nb, 0, none⟩) n n)
  par : ∀ i, i < n → w.cell? ⟨nb, i * 19 + 17, none⟩ = some (.int .i64 (par i))
  en : ∀ i, i < n → w.cell? ⟨nb, i * 19 + 18, none⟩ = some (.int .i64 ((Tr.enN en i : Nat) : Int))

structure AI (w wr : World) (sb n : Nat) (D G : Nat → Int) : Prop where
  grown : w.grownBy wr (some sb)
  st : wr.rowIs sb 73 (n * 2) (stv D G)

theorem LV.later {w wr : World} {lb nb n sb : Nat} {par en : Nat → Int} (h : LV w lb nb n par en) (hg : w.grownBy wr (some sb)) (h1 : lb ≠ sb) (h2 : nb ≠ sb) : LV wr lb nb n par en :=
  ⟨hg.cell h.top (by simpa using h1), fun i hi => hg.cell (h.par i hi) (by simpa using h2), fun i hi => hg.cell (h.en i hi) (by simpa using h2)⟩

theorem size_set (w : World) (a : Addr) (v : Value) : (w.setCell a v).heap.size = w.heap.size := by simp [World.setCell]

theorem ai_grant {w wr : World} {sb n : Nat} {D G D' G' : Nat → Int} {i : Nat} {x : Int} (h : AI w wr sb n D G)
    (hd : D' i = bits .or .u32 (D i) x) (hg : G' i = bits .or .u32 (G i) (bits .andNot .u32 x (D i))) (ho : ∀ j, j < n → j ≠ i → D' j = D j ∧ G' j = G j) :
    AI w ((wr.setCell ⟨sb, i * 2 + 1, none⟩ (.int .u32 (bits .or .u32 (G i) (bits .andNot .u32 x (D i))))).setCell ⟨sb, i * 2, none⟩ (.int .u32 (bits .or .u32 (D i) x))).drew sb n D' G' := by
  refine ⟨⟨h.grown.os, h.grown.tape, h.grown.output, ?_, fun k hk hne => ?_⟩, (((h.st.set (i * 2 + 1) _).set (i * 2) _).congr (fun j hj => ?_)).drew⟩
  · have := h.grown.size
    show w.heap.size ≤ ((wr.setCell _ _).setCell _ _).heap.size
    rw [size_set, size_set]; exact this
  · have hne' : k ≠ sb := fun e => hne (by rw [e])
    show ((wr.setCell _ _).setCell _ _).heap[k]? = _
    rw [Below.heap_setCell _ _ _ _ hne', Below.heap_setCell _ _ _ _ hne']
    exact h.grown.block k hk hne
  · by_cases e1 : j = i * 2
    · subst e1
      rw [if_pos rfl, stv_d, hd]
    · rw [if_neg e1]
      by_cases e2 : j = i * 2 + 1
      · subst e2
        rw [if_pos rfl, stv_g, hg]
      · rw [if_neg e2]
        unfold stv
        have hj2 : j / 2 ≠ i := by omega
        obtain ⟨q1, q2⟩ := ho (j / 2) (by omega) hj2
        rw [q1, q2]

set_option maxHeartbeats 4000000 in
set_option maxRecDepth 1000000 in
theorem allow29 (lb nb sb n k : Nat) (m : Int) (lv par en D G : Nat → Int) (w : World) (hL : LV w lb nb n par en) (hs : w.rowIs sb 73 (n * 2) (stv D G)) (h1 : lb ≠ sb) (h2 : nb ≠ sb) (T : Tr.Tree n lv par en) (hk : k < n) (hn : n ≤ 4096) :
    Calls Try.prog 29 #[.pointer (some ⟨lb, 0, none⟩), .slice (some ⟨sb, 0, none⟩) n n, .int .i64 k, .int .u32 m] w fun e w' =>
      e = .returned (.tuple #[]) ∧ AI w w' sb n (Tr.endD n par en k m D G) (Tr.endG n par en k m D G) := by
  have HL : Hid (LV w lb nb n par en) := hL
  have HT : Hid (Tr.Tree n lv par en) := T
  have HS : Hid (AI w w sb n (Tr.D1 k k m D) (Tr.G1 k k m D G)) := ⟨World.grownBy.refl _ _, by rw [Tr.d1_start, Tr.g1_start]; exact hs⟩
  obtain ⟨_, hke, hken, _⟩ := T.ends k hk
  have hkz : (k : Int) < (n : Int) := by omega
  clear hL T hs
  generalize hEk : Tr.enN en k = ek at *
  have HE : Hid (Tr.enN en k = ek) := hEk
  clear hEk
  go_enter Try.func29, Try.ntmps29
  go_wp2_with fail
  go_loopg [8] (ek - k) (fun g i wr => ∃ j : Nat, k ≤ j ∧ j ≤ ek ∧ g = ek - j ∧ i = .int .i64 j ∧ AI w wr sb n (Tr.D1 k j m D) (Tr.G1 k j m D G))
  case atStart => exact ⟨k, Nat.le_refl _, by omega, rfl, rfl, HS.out⟩
  case round =>
    clear HS
    obtain ⟨j, hkj, hj, rfl, rfl, hA⟩ := hrel
    have hLr := HL.out.later hA.grown h1 h2
    have t0 := hLr.top
    have t1 := hLr.en k hk
    rw [HE.out] at t1
    have t2 := hLr.par k hk
    clear hLr
    by_cases hlt : j < ek
    · have hltz : (j : Int) < (ek : Int) := by omega
      have hjn : j < n := by omega
      have hjnz : (j : Int) < (n : Int) := by omega
      have e1 : wr.cell? ⟨sb, j * 2, none⟩ = some (.int .u32 (D j)) := by rw [hA.st.cell (by omega), stv_d, Tr.d1_at]
      have e2 : wr.cell? ⟨sb, j * 2 + 1, none⟩ = some (.int .u32 (G j)) := by rw [hA.st.cell (by omega), stv_g, Tr.g1_at]
      have e3 := hA.st.frozen (j * 2)
      have e4 := hA.st.frozen (j * 2 + 1)
      have hN := ai_grant (D' := Tr.D1 k (j + 1) m D) (G' := Tr.G1 k (j + 1) m D G) (i := j) (x := m) hA (by rw [Tr.d1_next hkj, Tr.d1_at]; rfl) (by rw [Tr.g1_next hkj, Tr.d1_at, Tr.g1_at]; rfl) (fun i _ hi => ⟨Tr.d1_other hi m D, Tr.g1_other hi m D G⟩)
      rw [Tr.d1_at, Tr.g1_at] at hN
      have HN : Hid (AI w ((wr.setCell ⟨sb, j * 2 + 1, none⟩ (.int .u32 (bits .or .u32 (G j) (bits .andNot .u32 m (D j))))).setCell ⟨sb, j * 2, none⟩ (.int .u32 (bits .or .u32 (D j) m))).drew sb n (Tr.D1 k (j + 1) m D) (Tr.G1 k (j + 1) m D G)) := hN
      clear hN hA
      go_wp2_with fail
      refine (grant31 sb (j * 2) (D j) (G j) m _ e1 e2 e3 e4).mono ?_
      rintro e w2 ⟨rfl, hw2⟩
      rw [← hw2] at HN
      clear hw2
      go_wp2_with fail
      go_roundg (ek - (j + 1))
      case measure => go_light; omega
      case rel => go_light; exact ⟨j + 1, by omega, by omega, rfl, by go_num, HN.out⟩
    · have hltz : ¬ (j : Int) < (ek : Int) := by omega
      obtain rfl : ek = j := by omega
      -- THE SECOND LOOP: going up
      obtain ⟨E1, E2, HF⟩ : ∃ E1 E2 : Nat → Int, Hid (Tr.up n par n (par k) (Tr.D1 k ek m D) (Tr.G1 k ek m D G) = (E1, E2) ∧ Tr.endD n par en k m D G = E1 ∧ Tr.endG n par en k m D G = E2) :=
        ⟨_, _, rfl, by unfold Tr.endD; rw [HE.out], by unfold Tr.endG; rw [HE.out]⟩
      have HA : Hid (AI w wr sb n (Tr.D1 k ek m D) (Tr.G1 k ek m D G)) := hA
      clear hA
      go_wp2_with fail
      clear t0 t1 t2
      go_loopg [9] n (fun g p wr => ∃ (q : Int) (D' G' : Nat → Int), p = .int .i64 q ∧ (q = -1 ∨ ∃ p : Nat, q = (p : Int) ∧ p < n ∧ p < g) ∧ Tr.up n par g q D' G' = (E1, E2) ∧ AI w wr sb n D' G')
      case atStart =>
        refine ⟨par k, _, _, rfl, ?_, HF.out.1, HA.out⟩
        rcases HT.out.parLt k hk with h | ⟨p, h, hp⟩
        · exact Or.inl h
        · exact Or.inr ⟨p, h, by omega, by omega⟩
      case round =>
        clear HA
        obtain ⟨q, D', G', rfl, hq, hup, hA⟩ := hrel
        rcases hq with rfl | ⟨p, rfl, hpn, hpg⟩
        · rw [Tr.up_neg] at hup
          cases hup
          have HA : Hid (AI w wr sb n E1 E2) := hA
          clear hA
          go_wp2_with fail
          go_end0
          exact ⟨rfl, by rw [HF.out.2.1, HF.out.2.2]; exact HA.out⟩
        · obtain ⟨f, rfl⟩ : ∃ f, gk = f + 1 := ⟨gk - 1, by omega⟩
          have hpz : (0 : Int) ≤ (p : Int) := by omega
          have hpnz : (p : Int) < (n : Int) := by omega
          obtain ⟨_, hpe, hpen, _⟩ := HT.out.ends p hpn
          have hLr := HL.out.later hA.grown h1 h2
          have t0 := hLr.top
          have t1 := hLr.en p hpn
          have t2 := hLr.par p hpn
          have HLr : Hid (LV wr lb nb n par en) := hLr
          have HA : Hid (AI w wr sb n D' G') := hA
          have HU : Hid (Tr.up n par (f + 1) (p : Int) D' G' = (E1, E2)) := hup
          clear hLr hA hup
          go_wp2_with fail
          -- THE THIRD LOOP: the children's grants
          go_loopg [10, 11] (Tr.enN en p - (p + 1)) (fun g sh c wx => wx = wr ∧ ∃ (x : Int) (j : Nat), sh = .int .u32 x ∧ c = .int .i64 j ∧ g = Tr.enN en p - j ∧ Tr.CP par en p j ∧ Tr.scan G' par p (Tr.enN en p - j) j x = Tr.shared n G' par p)
          case atStart => exact ⟨rfl, _, p + 1, rfl, by go_num, rfl, Tr.child_first HT.out hpn, Tr.shared_chain HT.out G' hpn⟩
          case round =>
            obtain ⟨hwx, x, j, rfl, rfl, rfl, hC, hsc⟩ := hrel
            subst hwx
            have hpj := hC.1
            have hje := hC.2.1
            by_cases hlt : j < Tr.enN en p
            · have hltz : (j : Int) < ((Tr.enN en p : Nat) : Int) := by omega
              have hjn : j < n := by omega
              have hjnz : (j : Int) < (n : Int) := by omega
              have t3 := HLr.out.en j hjn
              have e2 : wr.cell? ⟨sb, j * 2 + 1, none⟩ = some (.int .u32 (G' j)) := by rw [HA.out.st.cell (by omega), stv_g]
              obtain ⟨hjj, hCn, _⟩ := Tr.child_next HT.out hpn hC hlt
              have hjj2 := hCn.2.1
              have HN : Hid (Tr.CP par en p (Tr.enN en j) ∧ Tr.scan G' par p (Tr.enN en p - Tr.enN en j) (Tr.enN en j) (bits .and .u32 x (G' j)) = Tr.shared n G' par p) := ⟨hCn, by rw [← hsc, Tr.chain_step HT.out G' hpn hC hlt]; rfl⟩
              clear hC hsc hCn
              generalize Tr.enN en j = ej at *
              generalize Tr.enN en p = ep at *
              go_wp2_with fail
              go_roundg (ep - ej)
              case measure => go_light; omega
              case rel => go_light; exact ⟨rfl, _, ej, rfl, rfl, rfl, HN.out⟩
            · have hltz : ¬ (j : Int) < ((Tr.enN en p : Nat) : Int) := by omega
              have hx : x = Tr.shared n G' par p := by
                rw [← hsc, show Tr.enN en p - j = 0 by omega]; rfl
              have HX : Hid (x = Tr.shared n G' par p) := hx
              clear hsc hx hC
              have e1 : wr.cell? ⟨sb, p * 2, none⟩ = some (.int .u32 (D' p)) := by rw [HA.out.st.cell (by omega), stv_d]
              have e2 : wr.cell? ⟨sb, p * 2 + 1, none⟩ = some (.int .u32 (G' p)) := by rw [HA.out.st.cell (by omega), stv_g]
              have e3 := HA.out.st.frozen (p * 2)
              have e4 := HA.out.st.frozen (p * 2 + 1)
              by_cases h0 : bits .andNot .u32 x (D' p) = 0
              · have h0z : (bits .andNot .u32 x (D' p) == 0) = true := by simp [h0]
                have hup : (D', G') = (E1, E2) := by
                  rw [← HU.out, Tr.up_stop]
                  unfold Tr.bnot; rw [← HX.out]; exact h0
                cases hup
                clear h0
                go_wp2_with fail
                refine bodyPost_ret (v := .tuple #[]) (results_none rfl _ _ _) rfl ?_
                exact ⟨rfl, by rw [HF.out.2.1, HF.out.2.2]; exact HA.out⟩
              · have h0z : (bits .andNot .u32 x (D' p) == 0) = false := by simp [h0]
                have hup : Tr.up n par f (par p) (Tr.upd D' p (Tr.bor (D' p) (bits .andNot .u32 x (D' p)))) (Tr.upd G' p (Tr.bor (G' p) (Tr.bnot (bits .andNot .u32 x (D' p)) (D' p)))) = (E1, E2) := by
                  rw [← HU.out, Tr.up_go]
                  · rw [HX.out]; rfl
                  · unfold Tr.bnot; rw [← HX.out]; exact h0
                have HUN : Hid (Tr.up n par f (par p) (Tr.upd D' p (Tr.bor (D' p) (bits .andNot .u32 x (D' p)))) (Tr.upd G' p (Tr.bor (G' p) (Tr.bnot (bits .andNot .u32 x (D' p)) (D' p)))) = (E1, E2)) := hup
                have HN : Hid (AI w ((wr.setCell ⟨sb, p * 2 + 1, none⟩ (.int .u32 (bits .or .u32 (G' p) (bits .andNot .u32 (bits .andNot .u32 x (D' p)) (D' p))))).setCell ⟨sb, p * 2, none⟩ (.int .u32 (bits .or .u32 (D' p) (bits .andNot .u32 x (D' p))))).drew sb n (Tr.upd D' p (Tr.bor (D' p) (bits .andNot .u32 x (D' p)))) (Tr.upd G' p (Tr.bor (G' p) (Tr.bnot (bits .andNot .u32 x (D' p)) (D' p))))) :=
                  ai_grant HA.out (by simp [Tr.upd]; rfl) (by simp [Tr.upd]; rfl) (fun j _ hj => by simp [Tr.upd, hj])
                clear hup h0
                go_wp2_with fail
                refine (grant31 sb (p * 2) (D' p) (G' p) (bits .andNot .u32 x (D' p)) _ e1 e2 e3 e4).mono ?_
                rintro e w2 ⟨rfl, hw2⟩
                rw [← hw2] at HN
                clear hw2
                have hL2 := HL.out.later HN.out.grown h1 h2
                have s0 := hL2.top
                have s2 := hL2.par p hpn
                clear hL2
                go_wp2_with fail
                go_roundg f
                case measure => go_light; omega
                case rel =>
                  go_light
                  refine ⟨par p, _, _, rfl, ?_, HUN.out, HN.out⟩
                  rcases HT.out.parLt p hpn with h | ⟨p', h, hp'⟩
                  · exact Or.inl h
                  · exact Or.inr ⟨p', h, by omega, by omega⟩

#print axioms allow29

end Go.Proofs.Qxb6000090a
