/-
  THE WALKS OF Valid (7), segmentModel (8), zzBytes (6).
-/
import Derived.Test.Qxb6000077aWalks
namespace Go.Proofs.Qxb6000077a
open Go.RowKit

def IsV (s : ByteArray) : Bool → Prop := fun b => b = true ↔ Uu.VP s.size (byteAt s)
def OkTo (s : ByteArray) (k : Nat) : Prop := ∀ i, i < k → Uu.okAt i (byteAt s i)
theorem okTo_succ {s : ByteArray} {k c : Nat} (hc : byteAt s k = c) (h : OkTo s k) (h1 : Uu.okAt k c) : OkTo s (k + 1) := fun j hj => by
  by_cases e : j = k
  · subst e; rw [hc]; exact h1
  · exact h j (by omega)
theorem not_ok {s : ByteArray} {k c : Nat} (hk : k < 36) (hc : byteAt s k = c) (h1 : ¬ Uu.okAt k c) : IsV s false := iff_no (fun h => by
  have := h.2 k hk
  rw [hc] at this
  exact h1 this)

set_option maxHeartbeats 2000000 in
theorem valid_any (s : ByteArray) (hs : s.size ≤ 9223372036854775807) (w : World) :
    Calls Try.prog 7 #[.string s] w fun e w' => BE (IsV s) e ∧ w' = w := by
  by_cases hl : s.size = 36
  · have hlz : ((s.size : Int) != 36) = false := by simp [hl]
    have hle : s.size ≤ 36 := by omega
    have hge : 36 ≤ s.size := by omega
    clear hl
    go_enter Try.func7, Try.ntmps7
    go_wp2_with fail
    go_loopg [10] 36 (fun g i wr => wr = w ∧ ∃ j : Nat, j ≤ 36 ∧ g = 36 - j ∧ i = .int .i64 j ∧ OkTo s j)
    case atStart => exact ⟨rfl, 0, Nat.zero_le _, rfl, rfl, fun j hj => absurd hj (Nat.not_lt_zero _)⟩
    case round =>
      obtain ⟨hw, j, hj, rfl, rfl, hx⟩ := hrel
      subst wr
      by_cases hlt : j < 36
      · have hltz : (j : Int) < (s.size : Int) := by omega
        have hjs : j < s.size := by omega
        obtain ⟨c, hc⟩ : ∃ c, byteAt s j = c := ⟨_, rfl⟩
        have hce : s[j].toNat = c := by rw [byteAt_eq, hc]
        have hcb : c < 256 := by rw [← hc]; exact byteAt_lt s j
        have HC : Hid (byteAt s j = c) := hc
        have HX : Hid (OkTo s j) := hx
        clear hc hx
        rcases (show j = 8 ∨ j = 13 ∨ j = 18 ∨ j = 23 ∨ j = 14 ∨ j = 19 ∨ (j ≠ 8 ∧ j ≠ 13 ∧ j ≠ 18 ∧ j ≠ 23 ∧ j ≠ 14 ∧ j ≠ 19) by omega) with hq | hq | hq | hq | hq | hq | hq
        · have z8 : ((j : Int) == 8) = true := by simp; omega
          have z13 : ((j : Int) == 13) = false := by simp; omega
          have z18 : ((j : Int) == 18) = false := by simp; omega
          have z23 : ((j : Int) == 23) = false := by simp; omega
          have z14 : ((j : Int) == 14) = false := by simp; omega
          have z19 : ((j : Int) == 19) = false := by simp; omega
          by_cases h45 : c = 45
          · have h45z : ((c : Int) != 45) = false := by simp; omega
            have HN : Hid (OkTo s (j + 1)) := okTo_succ HC.out HX.out (by unfold Uu.okAt; omega)
            clear HX HC hq h45
            go_wp2_with fail
            go_roundg (36 - (j + 1))
            case measure => go_light; omega
            case rel => go_light; exact ⟨rfl, j + 1, by omega, rfl, by go_num, HN.out⟩
          · have h45z : ((c : Int) != 45) = true := by simp; omega
            have HN : Hid (IsV s false) := not_ok hlt HC.out (by unfold Uu.okAt; omega)
            clear HX HC hq h45
            go_wp2_with fail
            go_ret
            exact ⟨BE.mk _ HN.out, rfl⟩
        · have z8 : ((j : Int) == 8) = false := by simp; omega
          have z13 : ((j : Int) == 13) = true := by simp; omega
          have z18 : ((j : Int) == 18) = false := by simp; omega
          have z23 : ((j : Int) == 23) = false := by simp; omega
          have z14 : ((j : Int) == 14) = false := by simp; omega
          have z19 : ((j : Int) == 19) = false := by simp; omega
          by_cases h45 : c = 45
          · have h45z : ((c : Int) != 45) = false := by simp; omega
            have HN : Hid (OkTo s (j + 1)) := okTo_succ HC.out HX.out (by unfold Uu.okAt; omega)
            clear HX HC hq h45
            go_wp2_with fail
            go_roundg (36 - (j + 1))
            case measure => go_light; omega
            case rel => go_light; exact ⟨rfl, j + 1, by omega, rfl, by go_num, HN.out⟩
          · have h45z : ((c : Int) != 45) = true := by simp; omega
            have HN : Hid (IsV s false) := not_ok hlt HC.out (by unfold Uu.okAt; omega)
            clear HX HC hq h45
            go_wp2_with fail
            go_ret
            exact ⟨BE.mk _ HN.out, rfl⟩
        · have z8 : ((j : Int) == 8) = false := by simp; omega
          have z13 : ((j : Int) == 13) = false := by simp; omega
          have z18 : ((j : Int) == 18) = true := by simp; omega
          have z23 : ((j : Int) == 23) = false := by simp; omega
          have z14 : ((j : Int) == 14) = false := by simp; omega
          have z19 : ((j : Int) == 19) = false := by simp; omega
          by_cases h45 : c = 45
          · have h45z : ((c : Int) != 45) = false := by simp; omega
            have HN : Hid (OkTo s (j + 1)) := okTo_succ HC.out HX.out (by unfold Uu.okAt; omega)
            clear HX HC hq h45
            go_wp2_with fail
            go_roundg (36 - (j + 1))
            case measure => go_light; omega
            case rel => go_light; exact ⟨rfl, j + 1, by omega, rfl, by go_num, HN.out⟩
          · have h45z : ((c : Int) != 45) = true := by simp; omega
            have HN : Hid (IsV s false) := not_ok hlt HC.out (by unfold Uu.okAt; omega)
            clear HX HC hq h45
            go_wp2_with fail
            go_ret
            exact ⟨BE.mk _ HN.out, rfl⟩
        · have z8 : ((j : Int) == 8) = false := by simp; omega
          have z13 : ((j : Int) == 13) = false := by simp; omega
          have z18 : ((j : Int) == 18) = false := by simp; omega
          have z23 : ((j : Int) == 23) = true := by simp; omega
          have z14 : ((j : Int) == 14) = false := by simp; omega
          have z19 : ((j : Int) == 19) = false := by simp; omega
          by_cases h45 : c = 45
          · have h45z : ((c : Int) != 45) = false := by simp; omega
            have HN : Hid (OkTo s (j + 1)) := okTo_succ HC.out HX.out (by unfold Uu.okAt; omega)
            clear HX HC hq h45
            go_wp2_with fail
            go_roundg (36 - (j + 1))
            case measure => go_light; omega
            case rel => go_light; exact ⟨rfl, j + 1, by omega, rfl, by go_num, HN.out⟩
          · have h45z : ((c : Int) != 45) = true := by simp; omega
            have HN : Hid (IsV s false) := not_ok hlt HC.out (by unfold Uu.okAt; omega)
            clear HX HC hq h45
            go_wp2_with fail
            go_ret
            exact ⟨BE.mk _ HN.out, rfl⟩
        · have z8 : ((j : Int) == 8) = false := by simp; omega
          have z13 : ((j : Int) == 13) = false := by simp; omega
          have z18 : ((j : Int) == 18) = false := by simp; omega
          have z23 : ((j : Int) == 23) = false := by simp; omega
          have z14 : ((j : Int) == 14) = true := by simp; omega
          have z19 : ((j : Int) == 19) = false := by simp; omega
          by_cases h55 : c = 55
          · have h55z : ((c : Int) != 55) = false := by simp; omega
            have HN : Hid (OkTo s (j + 1)) := okTo_succ HC.out HX.out (by unfold Uu.okAt; omega)
            clear HX HC hq h55
            go_wp2_with fail
            go_roundg (36 - (j + 1))
            case measure => go_light; omega
            case rel => go_light; exact ⟨rfl, j + 1, by omega, rfl, by go_num, HN.out⟩
          · have h55z : ((c : Int) != 55) = true := by simp; omega
            have HN : Hid (IsV s false) := not_ok hlt HC.out (by unfold Uu.okAt; omega)
            clear HX HC hq h55
            go_wp2_with fail
            go_ret
            exact ⟨BE.mk _ HN.out, rfl⟩
        · have z8 : ((j : Int) == 8) = false := by simp; omega
          have z13 : ((j : Int) == 13) = false := by simp; omega
          have z18 : ((j : Int) == 18) = false := by simp; omega
          have z23 : ((j : Int) == 23) = false := by simp; omega
          have z14 : ((j : Int) == 14) = false := by simp; omega
          have z19 : ((j : Int) == 19) = true := by simp; omega
          rcases (show c = 56 ∨ c = 57 ∨ c = 97 ∨ c = 98 ∨ (c ≠ 56 ∧ c ≠ 57 ∧ c ≠ 97 ∧ c ≠ 98) by omega) with h4 | h4 | h4 | h4 | h4
          · have c56 : ((c : Int) != 56) = false := by simp; omega
            have HN : Hid (OkTo s (j + 1)) := okTo_succ HC.out HX.out (by unfold Uu.okAt; omega)
            clear HX HC hq h4
            go_wp2_with fail
            go_roundg (36 - (j + 1))
            case measure => go_light; omega
            case rel => go_light; exact ⟨rfl, j + 1, by omega, rfl, by go_num, HN.out⟩
          · have c56 : ((c : Int) != 56) = true := by simp; omega
            have c57 : ((c : Int) != 57) = false := by simp; omega
            have HN : Hid (OkTo s (j + 1)) := okTo_succ HC.out HX.out (by unfold Uu.okAt; omega)
            clear HX HC hq h4
            go_wp2_with fail
            go_roundg (36 - (j + 1))
            case measure => go_light; omega
            case rel => go_light; exact ⟨rfl, j + 1, by omega, rfl, by go_num, HN.out⟩
          · have c56 : ((c : Int) != 56) = true := by simp; omega
            have c57 : ((c : Int) != 57) = true := by simp; omega
            have c97 : ((c : Int) != 97) = false := by simp; omega
            have HN : Hid (OkTo s (j + 1)) := okTo_succ HC.out HX.out (by unfold Uu.okAt; omega)
            clear HX HC hq h4
            go_wp2_with fail
            go_roundg (36 - (j + 1))
            case measure => go_light; omega
            case rel => go_light; exact ⟨rfl, j + 1, by omega, rfl, by go_num, HN.out⟩
          · have c56 : ((c : Int) != 56) = true := by simp; omega
            have c57 : ((c : Int) != 57) = true := by simp; omega
            have c97 : ((c : Int) != 97) = true := by simp; omega
            have c98 : ((c : Int) != 98) = false := by simp; omega
            have HN : Hid (OkTo s (j + 1)) := okTo_succ HC.out HX.out (by unfold Uu.okAt; omega)
            clear HX HC hq h4
            go_wp2_with fail
            go_roundg (36 - (j + 1))
            case measure => go_light; omega
            case rel => go_light; exact ⟨rfl, j + 1, by omega, rfl, by go_num, HN.out⟩
          · have c56 : ((c : Int) != 56) = true := by simp; omega
            have c57 : ((c : Int) != 57) = true := by simp; omega
            have c97 : ((c : Int) != 97) = true := by simp; omega
            have c98 : ((c : Int) != 98) = true := by simp; omega
            have HN : Hid (IsV s false) := not_ok hlt HC.out (by unfold Uu.okAt; omega)
            clear HX HC hq h4
            go_wp2_with fail
            go_ret
            exact ⟨BE.mk _ HN.out, rfl⟩
        · obtain ⟨q8, q13, q18, q23, q14, q19⟩ := hq
          have z8 : ((j : Int) == 8) = false := by simp; omega
          have z13 : ((j : Int) == 13) = false := by simp; omega
          have z18 : ((j : Int) == 18) = false := by simp; omega
          have z23 : ((j : Int) == 23) = false := by simp; omega
          have z14 : ((j : Int) == 14) = false := by simp; omega
          have z19 : ((j : Int) == 19) = false := by simp; omega
          rcases (show c < 48 ∨ (48 ≤ c ∧ c ≤ 57) ∨ (57 < c ∧ c < 97) ∨ (97 ≤ c ∧ c ≤ 102) ∨ 102 < c by omega) with h | ⟨h, h'⟩ | ⟨h, h'⟩ | ⟨h, h'⟩ | h
          · have c48 : decide ((c : Int) < 48) = true := by simp; omega
            have c97 : decide ((c : Int) < 97) = true := by simp; omega
            have HN : Hid (IsV s false) := not_ok hlt HC.out (by unfold Uu.okAt; omega)
            clear HX HC
            go_wp2_with fail
            go_ret
            exact ⟨BE.mk _ HN.out, rfl⟩
          · have c48 : decide ((c : Int) < 48) = false := by simp; omega
            have c57 : decide (57 < (c : Int)) = false := by simp; omega
            have HN : Hid (OkTo s (j + 1)) := okTo_succ HC.out HX.out (by unfold Uu.okAt; omega)
            clear HX HC
            go_wp2_with fail
            go_roundg (36 - (j + 1))
            case measure => go_light; omega
            case rel => go_light; exact ⟨rfl, j + 1, by omega, rfl, by go_num, HN.out⟩
          · have c48 : decide ((c : Int) < 48) = false := by simp; omega
            have c57 : decide (57 < (c : Int)) = true := by simp; omega
            have c97 : decide ((c : Int) < 97) = true := by simp; omega
            have HN : Hid (IsV s false) := not_ok hlt HC.out (by unfold Uu.okAt; omega)
            clear HX HC
            go_wp2_with fail
            go_ret
            exact ⟨BE.mk _ HN.out, rfl⟩
          · have c48 : decide ((c : Int) < 48) = false := by simp; omega
            have c57 : decide (57 < (c : Int)) = true := by simp; omega
            have c97 : decide ((c : Int) < 97) = false := by simp; omega
            have c102 : decide (102 < (c : Int)) = false := by simp; omega
            have HN : Hid (OkTo s (j + 1)) := okTo_succ HC.out HX.out (by unfold Uu.okAt; omega)
            clear HX HC
            go_wp2_with fail
            go_roundg (36 - (j + 1))
            case measure => go_light; omega
            case rel => go_light; exact ⟨rfl, j + 1, by omega, rfl, by go_num, HN.out⟩
          · have c48 : decide ((c : Int) < 48) = false := by simp; omega
            have c57 : decide (57 < (c : Int)) = true := by simp; omega
            have c97 : decide ((c : Int) < 97) = false := by simp; omega
            have c102 : decide (102 < (c : Int)) = true := by simp; omega
            have HN : Hid (IsV s false) := not_ok hlt HC.out (by unfold Uu.okAt; omega)
            clear HX HC
            go_wp2_with fail
            go_ret
            exact ⟨BE.mk _ HN.out, rfl⟩
      · have hltz : ¬ (j : Int) < (s.size : Int) := by omega
        have HN : Hid (IsV s true) := iff_yes ⟨by omega, by rwa [show j = 36 by omega] at hx⟩
        clear hx
        go_wp2_with fail
        go_ret
        exact ⟨BE.mk _ HN.out, rfl⟩
  · have hlz : ((s.size : Int) != 36) = true := by simp; omega
    have HN : Hid (IsV s false) := iff_no (fun h => hl h.1)
    go_enter Try.func7, Try.ntmps7
    go_wp2_with fail
    go_ret
    exact ⟨BE.mk _ HN.out, rfl⟩

end Go.Proofs.Qxb6000077a
