/-
  THE WALKS OF segmentModel (8), zzBytes (6) AND OF THE LAW (3).
-/
import Derived.Test.Qxb6000077aValid
namespace Go.Proofs.Qxb6000077a
open Go.RowKit

theorem size_cut (s : ByteArray) (a b : Nat) (hb : b ≤ s.size) : (s.extract a b).size = b - a := by
  rw [ByteArray.size_extract, Nat.min_eq_left hb]

theorem byteAt_cut (s : ByteArray) (a b j : Nat) (hb : b ≤ s.size) (hj : j < b - a) : byteAt (s.extract a b) j = byteAt s (a + j) := by
  unfold byteAt
  have hb' : b ≤ s.data.size := hb
  rw [ByteArray.data_extract, Array.getElem?_extract, if_pos (by rw [Nat.min_eq_left hb']; exact hj)]

theorem segP_congr {n k : Nat} {c c' : Nat → Nat} (h : ∀ j, j < n → c j = c' j) (hp : Uu.SegP n c k) : Uu.SegP n c' k := by
  obtain ⟨h1, h2, h3, h4⟩ := hp
  refine ⟨h1, fun j hj => by rw [← h j hj]; exact h2 j hj, fun hk => ?_, fun hk => ?_⟩
  · rw [← h 0 (by rw [h1, hk]; decide)]; exact h3 hk
  · rw [← h 0 (by rw [h1, hk]; decide)]; exact h4 hk

theorem segB_iff {s : ByteArray} {a b k : Nat} (hb : b ≤ s.size) {r : Bool} (h : SegB (s.extract a b) k r) : r = true ↔ Uu.SegP (b - a) (fun j => byteAt s (a + j)) k := by
  unfold SegB at h
  rw [size_cut s a b hb] at h
  rw [h]
  exact ⟨segP_congr (fun j hj => byteAt_cut s a b j hb hj), segP_congr (fun j hj => (byteAt_cut s a b j hb hj).symm)⟩

set_option maxHeartbeats 2000000 in
theorem model_any (s : ByteArray) (hs : s.size ≤ 1048576) (w : World) :
    Calls Try.prog 8 #[.string s] w fun e w' => BE (IsV s) e ∧ w' = w := by
  go_enter Try.func8, Try.ntmps8
  go_wp2_with fail
  go_loopg [3, 4, 5] (s.size + 1) (fun g sg st i wr => wr = w ∧ ∃ a b j : Nat, sg = .int .i64 a ∧ st = .int .i64 b ∧ i = .int .i64 j ∧ g = s.size + 1 - j ∧ Uu.Seg s.size (byteAt s) a b j)
  case atStart => exact ⟨rfl, 0, 0, 0, rfl, rfl, rfl, rfl, Uu.seg_start⟩
  case round =>
    obtain ⟨hw, a, b, j, rfl, rfl, rfl, rfl, hS⟩ := hrel
    subst wr
    have ha5 := hS.le5
    have hbj := hS.le
    have hjn := hS.ile
    have HS : Hid (Uu.Seg s.size (byteAt s) a b j) := hS
    clear hS
    by_cases hjle : j ≤ s.size
    · have hjz : (j : Int) ≤ (s.size : Int) := by omega
      -- what stands behind the test, once for both ways to it
      by_cases hgo : j < s.size ∧ byteAt s j ≠ 45
      · obtain ⟨hlt, hne⟩ := hgo
        have hltz : (j : Int) < (s.size : Int) := by omega
        have HN : Hid (Uu.Seg s.size (byteAt s) a b (j + 1)) := Uu.seg_cont HS.out hlt hne
        obtain ⟨c, hc⟩ : ∃ c, byteAt s j = c := ⟨_, rfl⟩
        have hce : s[j].toNat = c := by rw [byteAt_eq, hc]
        have hcz : ((c : Int) != 45) = true := by rw [hc] at hne; simp; omega
        clear hc hne
        go_wp2_with fail
        go_roundg (s.size + 1 - (j + 1))
        case measure => go_light; omega
        case rel => go_light; exact ⟨rfl, a, b, j + 1, rfl, rfl, by go_num, rfl, HN.out⟩
      · have hd : j < s.size → byteAt s j = 45 := fun h => by
          by_cases e : byteAt s j = 45
          · exact e
          · exact absurd ⟨h, e⟩ hgo
        have HD : Hid (j < s.size → byteAt s j = 45) := hd
        clear hd hgo
        by_cases ha : 4 < a
        · have HN : Hid (IsV s false) := iff_no (Uu.seg_over HS.out ha hjle)
          have haz : (4 : Int) < (a : Int) := by omega
          by_cases hlt : j < s.size
          · have hltz : (j : Int) < (s.size : Int) := by omega
            have hce : s[j].toNat = 45 := by rw [byteAt_eq]; exact HD.out hlt
            go_wp2_with fail
            go_ret
            exact ⟨BE.mk _ HN.out, rfl⟩
          · have hltz : decide ((j : Int) < (s.size : Int)) = false := decide_eq_false (by omega)
            go_wp2_with fail
            go_ret
            exact ⟨BE.mk _ HN.out, rfl⟩
        · have haz : ¬ (4 : Int) < (a : Int) := by omega
          have hcs := size_cut s b j hjle
          by_cases hlt : j < s.size
          · have hltz : (j : Int) < (s.size : Int) := by omega
            have hce : s[j].toNat = 45 := by rw [byteAt_eq]; exact HD.out hlt
            go_wp2_with fail
            refine (segok_any (s.extract b j) a (by omega) (by rw [hcs]; omega) _).mono ?_
            rintro e w1 ⟨⟨r, rfl, hr⟩, hw⟩
            subst w1
            have hr' := segB_iff hjle hr
            cases r
            · have HN : Hid (IsV s false) := iff_no (Uu.seg_bad HS.out (by omega) hjle HD.out (fun h => by cases hr'.2 h))
              clear hr hr'
              go_wp2_with fail
              go_ret
              exact ⟨BE.mk _ HN.out, rfl⟩
            · have HN : Hid (Uu.Seg s.size (byteAt s) (a + 1) (j + 1) (j + 1)) := Uu.seg_good HS.out (by omega) hjle HD.out (hr'.1 rfl)
              clear hr hr'
              go_wp2_with fail
              go_roundg (s.size + 1 - (j + 1))
              case measure => go_light; omega
              case rel => go_light; exact ⟨rfl, a + 1, j + 1, j + 1, by go_num, by go_num, by go_num, rfl, HN.out⟩
          · have hltz : decide ((j : Int) < (s.size : Int)) = false := decide_eq_false (by omega)
            go_wp2_with fail
            refine (segok_any (s.extract b j) a (by omega) (by rw [hcs]; omega) _).mono ?_
            rintro e w1 ⟨⟨r, rfl, hr⟩, hw⟩
            subst w1
            have hr' := segB_iff hjle hr
            cases r
            · have HN : Hid (IsV s false) := iff_no (Uu.seg_bad HS.out (by omega) hjle HD.out (fun h => by cases hr'.2 h))
              clear hr hr'
              go_wp2_with fail
              go_ret
              exact ⟨BE.mk _ HN.out, rfl⟩
            · have HN : Hid (Uu.Seg s.size (byteAt s) (a + 1) (j + 1) (j + 1)) := Uu.seg_good HS.out (by omega) hjle HD.out (hr'.1 rfl)
              clear hr hr'
              go_wp2_with fail
              go_roundg (s.size + 1 - (j + 1))
              case measure => go_light; omega
              case rel => go_light; exact ⟨rfl, a + 1, j + 1, j + 1, by go_num, by go_num, by go_num, rfl, HN.out⟩
    · have hjz : ¬ (j : Int) ≤ (s.size : Int) := by omega
      have hend : j = s.size + 1 := by omega
      have HE : Hid (a = 5 ↔ Uu.VP s.size (byteAt s)) := by have h := HS.out; rw [hend] at h; exact Uu.seg_end h
      clear hend HS
      by_cases h5 : a = 5
      · have h5z : ((a : Int) == 5) = true := by simp; omega
        have HN : Hid (IsV s true) := iff_yes (HE.out.1 h5)
        clear h5
        go_wp2_with fail
        go_ret
        exact ⟨BE.mk _ HN.out, rfl⟩
      · have h5z : ((a : Int) == 5) = false := by simp; omega
        have HN : Hid (IsV s false) := iff_no (fun h => h5 (HE.out.2 h))
        go_wp2_with fail
        go_ret
        exact ⟨BE.mk _ HN.out, rfl⟩

def SmallB (s : ByteArray) : Bool → Prop := fun b => b = true → s.size ≤ 1048576
set_option maxHeartbeats 400000 in
theorem bytes_any (s : ByteArray) (hs : s.size ≤ 9223372036854775807) (w : World) :
    Calls Try.prog 6 #[.string s] w fun e w' => BE (SmallB s) e ∧ w' = w := by
  by_cases h : (s.size : Int) ≤ 1048576
  · go_enter Try.func6, Try.ntmps6
    go_wp2
    go_ret
    exact ⟨BE.mk true (fun _ => by omega), rfl⟩
  · go_enter Try.func6, Try.ntmps6
    go_wp2
    go_ret
    exact ⟨BE.mk false (fun h => by cases h), rfl⟩

set_option maxHeartbeats 400000 in
theorem law_any (s : ByteArray) (hs : s.size ≤ 9223372036854775807) (w : World) :
    Calls Try.prog 3 #[.string s] w fun e w' => e = .returned (.bool true) ∧ w' = w := by
  go_enter Try.func3, Try.ntmps3
  go_wp2_with fail
  refine (bytes_any s hs _).mono ?_
  rintro e w1 ⟨⟨b, rfl, hb⟩, hw⟩
  subst w1
  cases b
  · go_wp2_with fail
    go_ret
    exact ⟨rfl, rfl⟩
  have hsm : s.size ≤ 1048576 := hb rfl
  clear hb
  go_wp2_with fail
  refine (valid_any s hs _).mono ?_
  rintro e w1 ⟨⟨b1, rfl, hb1⟩, hw⟩
  subst w1
  have H1 : Hid (IsV s b1) := hb1
  clear hb1
  go_wp2_with fail
  refine (model_any s hsm _).mono ?_
  rintro e w1 ⟨⟨b2, rfl, hb2⟩, hw⟩
  subst w1
  have HE : Hid ((b1 == b2) = true) := by
    have h1 := H1.out
    unfold IsV at h1 hb2
    rw [← hb2] at h1
    show (b1 == b2) = true
    cases b1 <;> cases b2 <;> simp_all
  clear hb2
  go_wp2_with fail
  go_ret
  exact ⟨by rw [HE.out]; rfl, rfl⟩

#print axioms law_any
end Go.Proofs.Qxb6000077a
