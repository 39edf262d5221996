/-
  THE WALK OF FnRulesetSetAddsEachNameOnce (5). (As the Table's.)
-/
import Derived.Test.Qxb6001663aLawT
import Derived.Test.Qxb6001663aSet
namespace Go.Proofs.Qxb6001663a
open Go.RowKit

set_option maxHeartbeats 4000000 in
set_option maxRecDepth 1000000 in
theorem lawR_any (ga : Option Addr) (gb go n Gc : Nat) (nm : Nat → ByteArray) (q : ByteArray) (w : World) (hg : SV w ga gb go n nm) (hq : q.size ≤ 9223372036854775807) :
    Calls Try.prog 5 #[.slice ga n Gc, .string q] w fun e w' => e = .returned (.bool true) ∧ Below w.heap.size w w' := by
  have hnb := hg.nb
  have HV : Hid (SV w ga gb go n nm) := hg
  clear hg
  have hpp := neq58
  go_enter Try.func5, Try.ntmps5
  go_wp2_with fail
  refine (bytesR_any ga gb go n Gc nm q _ HV.out hq).mono ?_
  rintro e w1 ⟨⟨b0, rfl, _⟩, hw⟩
  subst w1
  cases b0
  · go_wp2_with fail
    go_ret
    exact ⟨rfl, Below.refl _ _⟩
  by_cases hn : 512 < (n : Int)
  · go_wp2_with fail
    go_ret
    exact ⟨rfl, Below.refl _ _⟩
  have hnd : decide (512 < (n : Int)) = false := decide_eq_false hn
  by_cases hq1 : 65536 < (q.size : Int)
  · go_wp2_with fail
    go_ret
    exact ⟨rfl, Below.refl _ _⟩
  go_wp2_with fail
  refine (addW_any ga gb go n Gc nm _ HV.out).mono ?_
  rintro e w1 ⟨⟨z, rfl, hz⟩, hw⟩
  subst w1
  obtain ⟨hz0, hz1⟩ := hz
  by_cases hz2 : z ≤ 1048576
  rotate_left
  · go_wp2_with fail
    go_ret
    exact ⟨rfl, Below.refl _ _⟩
  go_wp2_with fail
  refine (addS_any z q _ hz0 (by omega) hq).mono ?_
  rintro e w1 ⟨⟨z2, rfl, hz3⟩, hw⟩
  subst w1
  obtain ⟨hz30, hz31⟩ := hz3
  by_cases hz4 : z2 ≤ 1048576
  rotate_left
  · go_wp2_with fail
    go_ret
    exact ⟨rfl, Below.refl _ _⟩
  go_wp2_with fail
  refine (clone_any ga gb go n Gc nm _ HV.out (by omega)).mono ?_
  rintro e w1 ⟨⟨ga1, gb1, go1, Gc1, rfl, hsv⟩, hbel⟩
  have HB1 : Hid (Below w.heap.size w w1) := hbel
  have HV1 : Hid (SV w1 ga1 gb1 go1 n nm) := hsv
  clear hbel hsv HV
  go_wp2_with fail
  have HT0 : Hid (TB KS (w1.alloc (.cells #[.slice none 0 0, .slice none 0 0, .map none, .int .i64 0] 57)) w1.heap.size [] none 0 0 none) := tb_new KS w1
  go_loopg [7] n (fun g i wr => ∃ k : Nat, k ≤ n ∧ g = n - k ∧ i = .int .i64 k ∧ Laid KS wr w1.heap.size nm k ∧ Below w1.heap.size w1 wr)
  case atStart => exact ⟨0, Nat.zero_le _, rfl, rfl, ⟨_, _, _, _, _, HT0.out, rfl⟩, (Below.refl _ _).alloc (Nat.le_refl _) _⟩
  case round =>
    clear HT0
    obtain ⟨k, hk, rfl, rfl, ⟨Ps, ao, m, cap, mo, hT, hPs⟩, hbel⟩ := hrel
    have HT : Hid (TB KS wr w1.heap.size Ps ao m cap mo) := hT
    have HP : Hid (Ps.map (·.1) = firsts nm k) := hPs
    have HB : Hid (Below w1.heap.size w1 wr) := hbel
    obtain ⟨hml, hmk⟩ := hT.len_le hPs
    have HM : Hid (m = (firsts nm k).length) := hml
    clear hT hPs hbel hml
    by_cases hlt : k < n
    · have hltz : (k : Int) < (n : Int) := by omega
      obtain rfl := HV1.out.hga (by omega)
      have c0 : wr.cell? ⟨gb1, go1 + k, none⟩ = some (.string (nm k)) := (HV1.out.below HB.out).cell k hlt
      go_wp2_with fail
      refine (putS_any w1.heap.size Ps ao m cap mo (nm k) _ HT.out (by omega)).mono ?_
      rintro e w2 ⟨⟨b, rfl, Ps2, ao2, m2, cap2, mo2, hT2, hb2, hp2⟩, hbel2⟩
      clear c0
      have HT2 : Hid (TB KS w2 w1.heap.size Ps2 ao2 m2 cap2 mo2) := hT2
      have HB2 : Hid (Below w1.heap.size w1 w2) := HB.out.trans hbel2
      have HP2 : Hid (Ps2.map (·.1) = firsts nm (k + 1)) := laid_step HP.out hp2
      have HM2 : Hid ((nm k, b) ∈ Ps2) := hb2
      obtain ⟨ix, hrow⟩ := hT2.of_mem hb2
      have cn : w2.cell? ⟨b, 0, none⟩ = some (.string (nm k)) := hrow.cell (by decide)
      have hm2 : m2 ≤ k + 1 := (hT2.len_le HP2.out).2
      clear hT2 hbel2 hp2 hb2 hrow
      go_wp2_with fail
      refine (nameS_any b (nm k) _ cn).mono ?_
      rintro e w3 ⟨rfl, hw⟩
      subst w3
      go_wp2_with fail
      refine (lookS_any w1.heap.size Ps2 ao2 m2 cap2 mo2 (nm k) _ HT2.out).mono ?_
      rintro e w3 ⟨⟨o, rfl, hr⟩, hw⟩
      subst w3
      obtain rfl := hr.of_mem HT2.out.nodup HM2.out
      simp only [ptr, Option.map_some]
      clear hr
      go_wp2_with fail
      refine (putS_any w1.heap.size Ps2 ao2 m2 cap2 mo2 (nm k) _ HT2.out (by omega)).mono ?_
      rintro e w3 ⟨⟨b3, rfl, Ps3, ao3, m3, cap3, mo3, hT3, hb3, hp3⟩, hbel3⟩
      obtain ⟨rfl, rfl⟩ := put_same HT2.out.nodup HM2.out hb3 hp3
      have HN : Hid (Laid KS w3 w1.heap.size nm (k + 1) ∧ Below w1.heap.size w1 w3) := ⟨⟨_, _, _, _, _, hT3, HP2.out⟩, HB2.out.trans hbel3⟩
      clear hT3 hb3 hp3 hbel3 cn
      go_wp2_with fail
      go_roundg (n - (k + 1))
      case measure => go_light; omega
      case rel => go_light; exact ⟨k + 1, by omega, rfl, by go_num, HN.out.1, HN.out.2⟩
    · have hltz : ¬ (k : Int) < (n : Int) := by omega
      obtain rfl : n = k := by omega
      go_wp2_with fail
      refine (setsS_any w1.heap.size Ps ao m cap mo _ HT.out).mono ?_
      rintro e w3 ⟨rfl, hw⟩
      subst w3
      have HV2 : Hid (SV wr ga1 gb1 go1 n nm) := HV1.out.below HB.out
      have HB2 : Hid (Below w.heap.size w wr) := HB1.out.trans (HB.out.mono HB1.out.size)
      clear HB HV1 HB1
      have hm5 : m ≤ 512 := by omega
      generalize w1.heap.size = tb at *
      generalize hw2 : wr = w2 at *
      clear hw2
      go_wp2_with fail
      go_loopg [11, 12] n (fun g kk i wr => ∃ r : Nat, r ≤ n ∧ g = n - r ∧ i = .int .i64 r ∧ (∃ c : Nat, c = (firsts nm r).length ∧ kk = .int .i64 c) ∧ Below w2.heap.size w2 wr)
      case atStart => exact ⟨0, Nat.zero_le _, rfl, rfl, ⟨0, rfl, rfl⟩, Below.refl _ _⟩
      case round =>
        obtain ⟨r, hr, rfl, rfl, ⟨c, hc, rfl⟩, hbel⟩ := hrel
        have HC : Hid (c = (firsts nm r).length) := hc
        have HB : Hid (Below w2.heap.size w2 wr) := hbel
        have hcr : c ≤ r := by rw [hc]; exact firsts_len nm r
        clear hc hbel
        by_cases hrl : r < n
        · have hrlz : (r : Int) < (n : Int) := by omega
          obtain rfl := HV2.out.hga (by omega)
          go_wp2_with fail
          refine (seen_any (some ⟨gb1, go1, none⟩) gb1 go1 n Gc1 nm r _ (HV2.out.below HB.out) hrl).mono ?_
          rintro e w3 ⟨⟨b0, rfl, hseen⟩, hbel3⟩
          have HB3 : Hid (Below w2.heap.size w2 w3) := HB.out.trans (hbel3.mono HB.out.size)
          clear hbel3 HB
          cases b0
          · have hns : nm r ∉ firsts nm r := fun h => by cases hseen.2 h
            obtain ⟨g, b, rfl, hcm, hcg, hmem⟩ := (HT.out.below HB3.out).at HP.out hrl hns
            rw [← HC.out] at hcm hcg
            have hcmz : (c : Int) < (m : Int) := by omega
            obtain ⟨ix, hrow⟩ := (HT.out.below HB3.out).of_mem hmem
            have c0 : w3.cell? ⟨b, 0, none⟩ = some (.string (nm r)) := hrow.cell (by decide)
            have c2 : w3.cell? ⟨b, 2, none⟩ = some (.string ⟨#[]⟩) := hrow.cell (by decide)
            have c3 : w3.cell? ⟨b, 3, none⟩ = some (.slice none 0 0) := hrow.cell (by decide)
            have c4 : w3.cell? ⟨b, 4, none⟩ = some (.slice none 0 0) := hrow.cell (by decide)
            have cn : w3.cell? ⟨gb1, go1 + r, none⟩ = some (.string (nm r)) := (HV2.out.below HB3.out).cell r hrl
            have HMm : Hid ((nm r, b) ∈ Ps) := hmem
            have HNX : Hid (c + 1 = (firsts nm (r + 1)).length) := by rw [firsts_new hns, List.length_append, ← HC.out]; rfl
            clear hseen hns hrow hmem
            go_wp2_with fail
            go_quiet ((go_at_call 27; exact Calls.quiet_of_same (nameS_any b (nm r) _ c0)))
            clear c0 c2 c3 c4 hcg
            go_wp2_with fail
            refine (lookS_any tb Ps (some ⟨g, 0, none⟩) m cap mo (nm r) _ (HT.out.below (below_drewN HB3.out _))).mono ?_
            rintro e w4 ⟨⟨o, rfl, hr⟩, hw⟩
            subst w4
            obtain rfl := hr.of_mem HT.out.nodup HMm.out
            simp only [ptr, Option.map_some]
            clear hr
            go_wp2_with fail
            go_roundg (n - (r + 1))
            case measure => go_light; omega
            case rel => go_light; exact ⟨r + 1, by omega, rfl, by go_num, ⟨c + 1, HNX.out, by go_num⟩, below_drewN HB3.out _⟩
          · have HNX : Hid (c = (firsts nm (r + 1)).length) := by rw [firsts_old (hseen.1 rfl)]; exact HC.out
            clear hseen
            go_wp2_with fail
            go_roundg (n - (r + 1))
            case measure => go_light; omega
            case rel => go_light; exact ⟨r + 1, by omega, rfl, by go_num, ⟨c, HNX.out, rfl⟩, HB3.out⟩
        · have hrlz : ¬ (r : Int) < (n : Int) := by omega
          obtain rfl : n = r := by omega
          obtain rfl : m = c := by rw [HM.out, HC.out]
          go_wp2_with fail
          refine (tables_any tb Ps ao m cap mo _ (HT.out.below HB.out)).mono ?_
          rintro e w3 ⟨rfl, hw⟩
          subst w3
          go_wp2_with fail
          refine (contains_any ga1 gb1 go1 n Gc1 nm q _ (HV2.out.below HB.out)).mono ?_
          rintro e w3 ⟨⟨b0, rfl, hin⟩, hw⟩
          subst w3
          have HF : Hid (Below w.heap.size w wr) := HB2.out.trans (HB.out.mono HB2.out.size)
          cases b0
          · have hnq : q ∉ firsts nm n := fun h => by cases hin.2 h
            have HQ : Hid (q ∉ firsts nm n) := hnq
            clear hin hnq
            go_wp2_with fail
            refine (lookS_any tb Ps ao m cap mo q _ (HT.out.below HB.out)).mono ?_
            rintro e w3 ⟨⟨o, rfl, hr⟩, hw⟩
            subst w3
            obtain rfl := res_none hr (by rw [HP.out]; exact HQ.out)
            simp only [ptr, Option.map_none]
            clear hr
            go_wp2_with fail
            go_ret
            exact ⟨rfl, HF.out⟩
          · clear hin
            go_wp2_with fail
            go_ret
            exact ⟨rfl, HF.out⟩

end Go.Proofs.Qxb6001663a
