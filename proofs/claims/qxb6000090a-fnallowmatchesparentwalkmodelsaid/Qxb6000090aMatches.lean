/-
  THE WALK OF FnAllowMatchesParentWalkModel (7).
-/
import Derived.Test.Qxb6000090aModel
namespace Go.Proofs.Qxb6000090a
open Go.RowKit

theorem gt_no7 {l : Nat} (h : l ≤ 4096) : decide ((4096 : Int) < (l : Int)) = false := decide_eq_false (by omega)
theorem gt_yes7 {l : Nat} (h : ¬ l ≤ 4096) : decide ((4096 : Int) < (l : Int)) = true := decide_eq_true (by omega)

set_option maxHeartbeats 4000000 in
set_option maxRecDepth 1000000 in
theorem law7 (a0 a1 a2 a3 a4 : Option Addr) (b0 o0 b1 o1 b2 o2 b3 o3 b4 o4 l0 l1 l2 l3 l4 c0 c1 c2 c3 c4 : Nat) (lv par en D G : Nat → Int) (k m : Int) (w : World)
    (h0 : RowV w .i64 a0 b0 o0 l0 lv) (h1 : RowV w .i64 a1 b1 o1 l1 par) (h2 : RowV w .i64 a2 b2 o2 l2 en) (h3 : RowV w .u32 a3 b3 o3 l3 D) (h4 : RowV w .u32 a4 b4 o4 l4 G)
    (q0 : l0 ≤ 9223372036854775807) (q1 : l1 ≤ 9223372036854775807) (q2 : l2 ≤ 9223372036854775807) (q3 : l3 ≤ 9223372036854775807) (q4 : l4 ≤ 9223372036854775807)
    (hlv : ∀ i, i < l0 → lv i ≤ 9223372036854775807) (hD : ∀ i, Tr.U (D i)) (hG : ∀ i, Tr.U (G i)) (hm : Tr.U m) :
    Calls Try.prog 7 #[.slice a0 l0 c0, .slice a1 l1 c1, .slice a2 l2 c2, .slice a3 l3 c3, .slice a4 l4 c4, .int .i64 k, .int .u32 m] w fun e w' => e = .returned (.bool true) ∧ Below w.heap.size w w' := by
  have H0 : Hid (RowV w .i64 a0 b0 o0 l0 lv) := h0
  have H1 : Hid (RowV w .i64 a1 b1 o1 l1 par) := h1
  have H2 : Hid (RowV w .i64 a2 b2 o2 l2 en) := h2
  have H3 : Hid (RowV w .u32 a3 b3 o3 l3 D) := h3
  have H4 : Hid (RowV w .u32 a4 b4 o4 l4 G) := h4
  have HLV : Hid (∀ i, i < l0 → lv i ≤ 9223372036854775807) := hlv
  have HU : Hid ((∀ i, Tr.U (D i)) ∧ (∀ i, Tr.U (G i)) ∧ Tr.U m) := ⟨hD, hG, hm⟩
  clear h0 h1 h2 h3 h4 hlv hD hG hm
  go_enter Try.func7, Try.ntmps7
  go_wp2_with fail
  refine (bytes17 a0 a1 a2 a3 a4 l0 l1 l2 l3 l4 c0 c1 c2 c3 c4 k m _ q0 q1 q2 q3 q4).mono ?_
  rintro e w1 ⟨⟨b, rfl, _⟩, hw⟩
  subst w1
  clear q0 q1 q2 q3 q4
  cases b
  · go_wp2_with fail
    go_ret
    exact ⟨rfl, Below.refl _ _⟩
  by_cases e0 : l0 ≤ 4096
  rotate_left
  · have := gt_yes7 e0
    clear e0
    go_wp2_with fail
    go_ret
    exact ⟨rfl, Below.refl _ _⟩
  have g0 := gt_no7 e0
  by_cases e1 : l1 ≤ 4096
  rotate_left
  · have := gt_yes7 e1
    clear e1
    go_wp2_with fail
    go_ret
    exact ⟨rfl, Below.refl _ _⟩
  have g1 := gt_no7 e1
  by_cases e2 : l2 ≤ 4096
  rotate_left
  · have := gt_yes7 e2
    clear e2
    go_wp2_with fail
    go_ret
    exact ⟨rfl, Below.refl _ _⟩
  have g2 := gt_no7 e2
  by_cases e3 : l3 ≤ 4096
  rotate_left
  · have := gt_yes7 e3
    clear e3
    go_wp2_with fail
    go_ret
    exact ⟨rfl, Below.refl _ _⟩
  have g3 := gt_no7 e3
  by_cases e4 : l4 ≤ 4096
  rotate_left
  · have := gt_yes7 e4
    clear e4
    go_wp2_with fail
    go_ret
    exact ⟨rfl, Below.refl _ _⟩
  have g4 := gt_no7 e4
  go_wp2_with fail
  refine (args18 a0 a1 a2 a3 a4 b0 o0 b1 o1 b2 o2 l0 l1 l2 l3 l4 c0 c1 c2 c3 c4 lv par en k _ H0.out H1.out H2.out e0 e1 e2 HLV.out).mono ?_
  rintro e w1 ⟨⟨b, rfl, hb⟩, hbl⟩
  have HB : Hid (Below w.heap.size w w1) := hbl
  clear hbl
  cases b
  · go_wp2_with fail
    go_ret
    exact ⟨rfl, HB.out⟩
  obtain ⟨rfl, rfl, rfl, rfl, T, hk0, hkn⟩ := hb rfl
  clear hb
  generalize l4 = n at *
  obtain ⟨kk, rfl⟩ := Int.eq_ofNat_of_zero_le hk0
  have hk : kk < n := by omega
  have hpos : 0 < n := by omega
  have hnz : (0 : Int) < (n : Int) := by omega
  obtain rfl := H0.out.ha hpos
  obtain rfl := H1.out.ha hpos
  obtain rfl := H2.out.ha hpos
  obtain rfl := H3.out.ha hpos
  obtain rfl := H4.out.ha hpos
  have HT : Hid (Tr.Tree n lv par en) := T
  clear T g0 g1 g2 g3 e0 e1 e2 e3 HLV
  have K0 : Hid (RowV w1 .i64 (some ⟨b0, o0, none⟩) b0 o0 n lv) := H0.out.below HB.out
  have K1 : Hid (RowV w1 .i64 (some ⟨b1, o1, none⟩) b1 o1 n par) := H1.out.below HB.out
  have K2 : Hid (RowV w1 .i64 (some ⟨b2, o2, none⟩) b2 o2 n en) := H2.out.below HB.out
  have K3 : Hid (RowV w1 .u32 (some ⟨b3, o3, none⟩) b3 o3 n D) := H3.out.below HB.out
  have K4 : Hid (RowV w1 .u32 (some ⟨b4, o4, none⟩) b4 o4 n G) := H4.out.below HB.out
  clear H0 H1 H2 H3 H4
  generalize w1 = w2 at *
  -- THE CLONES
  go_wp2_with fail
  refine (clone19 b0 o0 n c0 lv _ K0.out (by omega)).mono ?_
  rintro e w3 ⟨rfl, hr3, hb3, hz3⟩
  have R0 : Hid (RowV w3 .i64 (some ⟨w2.heap.size, 0, none⟩) w2.heap.size 0 n lv) := RowV.ofRow hr3
  have B3 : Hid (Below w2.heap.size w2 w3) := hb3
  have L1 : Hid (RowV w3 .i64 (some ⟨b1, o1, none⟩) b1 o1 n par) := K1.out.below hb3
  have L2 : Hid (RowV w3 .i64 (some ⟨b2, o2, none⟩) b2 o2 n en) := K2.out.below hb3
  have L3 : Hid (RowV w3 .u32 (some ⟨b3, o3, none⟩) b3 o3 n D) := K3.out.below hb3
  have L4 : Hid (RowV w3 .u32 (some ⟨b4, o4, none⟩) b4 o4 n G) := K4.out.below hb3
  clear hr3 hb3 hz3 K0 K1 K2 K3 K4
  go_wp2_with fail
  refine (clone19 b1 o1 n c1 par _ L1.out (by omega)).mono ?_
  rintro e w4 ⟨rfl, hr4, hb4, hz4⟩
  have R1 : Hid (RowV w4 .i64 (some ⟨w3.heap.size, 0, none⟩) w3.heap.size 0 n par) := RowV.ofRow hr4
  have S0 : Hid (RowV w4 .i64 (some ⟨w2.heap.size, 0, none⟩) w2.heap.size 0 n lv) := R0.out.below hb4
  have B4 : Hid (Below w2.heap.size w2 w4) := B3.out.trans (hb4.mono B3.out.size)
  have M2 : Hid (RowV w4 .i64 (some ⟨b2, o2, none⟩) b2 o2 n en) := L2.out.below hb4
  have M3 : Hid (RowV w4 .u32 (some ⟨b3, o3, none⟩) b3 o3 n D) := L3.out.below hb4
  have M4 : Hid (RowV w4 .u32 (some ⟨b4, o4, none⟩) b4 o4 n G) := L4.out.below hb4
  clear hr4 hb4 hz4 L1 L2 L3 L4 R0 B3
  go_wp2_with fail
  refine (clone19 b2 o2 n c2 en _ M2.out (by omega)).mono ?_
  rintro e w5 ⟨rfl, hr5, hb5, hz5⟩
  have R2 : Hid (RowV w5 .i64 (some ⟨w4.heap.size, 0, none⟩) w4.heap.size 0 n en) := RowV.ofRow hr5
  have S1 : Hid (RowV w5 .i64 (some ⟨w3.heap.size, 0, none⟩) w3.heap.size 0 n par) := R1.out.below hb5
  have T0 : Hid (RowV w5 .i64 (some ⟨w2.heap.size, 0, none⟩) w2.heap.size 0 n lv) := S0.out.below hb5
  have B5 : Hid (Below w2.heap.size w2 w5) := B4.out.trans (hb5.mono B4.out.size)
  have N3 : Hid (RowV w5 .u32 (some ⟨b3, o3, none⟩) b3 o3 n D) := M3.out.below hb5
  have N4 : Hid (RowV w5 .u32 (some ⟨b4, o4, none⟩) b4 o4 n G) := M4.out.below hb5
  clear hr5 hb5 hz5 M2 M3 M4 R1 S0 B4
  go_wp2_with fail
  refine (clone20 b3 o3 n c3 D _ N3.out (by omega)).mono ?_
  rintro e w6 ⟨rfl, hr6, hb6, hz6⟩
  have R3 : Hid (RowV w6 .u32 (some ⟨w5.heap.size, 0, none⟩) w5.heap.size 0 n D) := RowV.ofRow hr6
  have S2 : Hid (RowV w6 .i64 (some ⟨w4.heap.size, 0, none⟩) w4.heap.size 0 n en) := R2.out.below hb6
  have T1 : Hid (RowV w6 .i64 (some ⟨w3.heap.size, 0, none⟩) w3.heap.size 0 n par) := S1.out.below hb6
  have V0 : Hid (RowV w6 .i64 (some ⟨w2.heap.size, 0, none⟩) w2.heap.size 0 n lv) := T0.out.below hb6
  have B6 : Hid (Below w2.heap.size w2 w6) := B5.out.trans (hb6.mono B5.out.size)
  have O4 : Hid (RowV w6 .u32 (some ⟨b4, o4, none⟩) b4 o4 n G) := N4.out.below hb6
  clear hr6 hb6 hz6 N3 N4 R2 S1 T0 B5
  go_wp2_with fail
  refine (clone20 b4 o4 n c4 G _ O4.out (by omega)).mono ?_
  rintro e w7 ⟨rfl, hr7, hb7, hz7⟩
  have R4 : Hid (RowV w7 .u32 (some ⟨w6.heap.size, 0, none⟩) w6.heap.size 0 n G) := RowV.ofRow hr7
  have S3 : Hid (RowV w7 .u32 (some ⟨w5.heap.size, 0, none⟩) w5.heap.size 0 n D) := R3.out.below hb7
  have T2 : Hid (RowV w7 .i64 (some ⟨w4.heap.size, 0, none⟩) w4.heap.size 0 n en) := S2.out.below hb7
  have V1 : Hid (RowV w7 .i64 (some ⟨w3.heap.size, 0, none⟩) w3.heap.size 0 n par) := T1.out.below hb7
  have W0 : Hid (RowV w7 .i64 (some ⟨w2.heap.size, 0, none⟩) w2.heap.size 0 n lv) := V0.out.below hb7
  have B7 : Hid (Below w2.heap.size w2 w7) := B6.out.trans (hb7.mono B6.out.size)
  clear hr7 hb7 hz7 O4 R3 S2 T1 V0 B6
  go_wp2_with fail
  -- ZZAllow
  refine (zz21 _ _ _ _ _ w2.heap.size 0 w3.heap.size 0 w4.heap.size 0 w5.heap.size 0 w6.heap.size 0 n n n n n n kk m lv par en D G _ W0.out V1.out T2.out S3.out R4.out HT.out hk (by omega)).mono ?_
  rintro e w8 ⟨p, rfl, hd, hg, hb8⟩
  obtain ⟨D', G', HE⟩ : ∃ D' G', Hid (Tr.endD n par en kk m D G = D' ∧ Tr.endG n par en kk m D G = G') := ⟨_, _, rfl, rfl⟩
  rw [HE.out.1] at hd
  rw [HE.out.2] at hg
  have XD0 : Hid (RowV w8 .u32 (some ⟨p, 0, none⟩) p 0 n D') := RowV.ofRow hd
  have XG0 : Hid (RowV w8 .u32 (some ⟨p + 1, 0, none⟩) (p + 1) 0 n G') := RowV.ofRow hg
  have XP : Hid (RowV w8 .i64 (some ⟨w3.heap.size, 0, none⟩) w3.heap.size 0 n par) := V1.out.below hb8
  have XD : Hid (RowV w8 .u32 (some ⟨w5.heap.size, 0, none⟩) w5.heap.size 0 n D) := S3.out.below hb8
  have XG : Hid (RowV w8 .u32 (some ⟨w6.heap.size, 0, none⟩) w6.heap.size 0 n G) := R4.out.below hb8
  have B8 : Hid (Below w.heap.size w w8) := (HB.out.trans (B7.out.mono HB.out.size)).trans (hb8.mono (Nat.le_trans HB.out.size B7.out.size))
  clear hd hg hb8 W0 V1 T2 S3 R4 B7 HB
  go_wp2_with fail
  refine (model22 w3.heap.size 0 w5.heap.size 0 w6.heap.size 0 n n n n kk m lv par en D G _ XP.out XD.out XG.out HT.out hk (by omega) HU.out.1 HU.out.2.1 HU.out.2.2).mono ?_
  rintro e w9 ⟨p2, rfl, hd2, hg2, hb9⟩
  rw [HE.out.1] at hd2
  rw [HE.out.2] at hg2
  have YD0 : Hid (RowV w9 .u32 (some ⟨p, 0, none⟩) p 0 n D') := XD0.out.below hb9
  have YG0 : Hid (RowV w9 .u32 (some ⟨p + 1, 0, none⟩) (p + 1) 0 n G') := XG0.out.below hb9
  have HD2 : Hid (w9.rowIs p2 22 n (fun i => .int .u32 (D' i))) := hd2
  have HG2 : Hid (w9.rowIs (p2 + 1) 22 n (fun i => .int .u32 (G' i))) := hg2
  have B9 : Hid (Below w.heap.size w w9) := B8.out.trans (hb9.mono B8.out.size)
  clear hd2 hg2 hb9 XP XD XG XD0 XG0 B8
  go_wp2_with fail
  go_loopg [19] n (fun g i wr => ∃ j : Nat, j ≤ n ∧ g = n - j ∧ i = .int .i64 j ∧ Below w9.heap.size w9 wr)
  case atStart => exact ⟨0, Nat.zero_le _, rfl, rfl, Below.refl _ _⟩
  case round =>
    obtain ⟨j, hj, rfl, rfl, hB⟩ := hrel
    by_cases hlt : j < n
    · have hltz : (j : Int) < (n : Int) := by omega
      have cell : ∀ {a : Addr} {v : Value}, w9.cell? a = some v → wr.cell? a = some v := fun {a v} h => by rw [hB.cell (p := a) (World.block_lt_of_cell? _ _ h)]; exact h
      have k1 : wr.cell? ⟨p, j, none⟩ = some (.int .u32 (D' j)) := cell (by simpa using YD0.out.cell j hlt)
      have k2 : wr.cell? ⟨p + 1, j, none⟩ = some (.int .u32 (G' j)) := cell (by simpa using YG0.out.cell j hlt)
      have k3 : wr.cell? ⟨p2, j, none⟩ = some (.int .u32 (D' j)) := cell (HD2.out.cell hlt)
      have k4 : wr.cell? ⟨p2 + 1, j, none⟩ = some (.int .u32 (G' j)) := cell (HG2.out.cell hlt)
      have z1 : (D' j != D' j) = false := by simp
      have z2 : (G' j != G' j) = false := by simp
      have BW : Hid (Below w9.heap.size w9 wr) := hB
      clear hB cell
      go_wp2_with fail
      go_quiet (fail)
      go_wp2_with fail
      go_roundg (n - (j + 1))
      case measure => go_light; omega
      case rel => go_light; exact ⟨j + 1, by omega, rfl, by go_num, by repeat (first | exact BW.out | apply below_drewN)⟩
    · have hltz : ¬ (j : Int) < (n : Int) := by omega
      have BF : Hid (Below w.heap.size w wr) := B9.out.trans (hB.mono B9.out.size)
      clear hB
      go_wp2_with fail
      go_ret
      exact ⟨rfl, BF.out⟩

end Go.Proofs.Qxb6000090a
