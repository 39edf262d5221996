/-
  THE WALKS: isLowerHex (16), segLen (15), segmentOK (12), Valid (7), segmentModel (8), zzBytes (6).
-/
import Derived.Test.Qxb6000077aProg
import Derived.Test.Qxb6000077aPlain
import Derived.WalkKit
import Derived.WalkSpells
import Derived.WalkLawsBesides
import Derived.Deep.LoopGhost
import Derived.Deep.Light
import Derived.Deep.DeepMust
namespace Go.Proofs.Qxb6000077a
open Go.RowKit

/-- An ending that hands back SOME bool, of which p holds. (A name, so that the walk's simp does not take it apart.) -/
def BE (p : Bool → Prop) (e : Ending) : Prop := ∃ b : Bool, e = .returned (.bool b) ∧ p b
theorem BE.mk {p : Bool → Prop} (b : Bool) (h : p b) : BE p (.returned (.bool b)) := ⟨b, rfl, h⟩
theorem BE.eq {p : Bool → Prop} {b b' : Bool} (h : p b') (e : b = b') : BE p (.returned (.bool b)) := by rw [e]; exact ⟨b', rfl, h⟩
def AnyB : Bool → Prop := fun _ => True
theorem iff_yes {q : Prop} (h : q) : (true = true ↔ q) := ⟨fun _ => h, fun _ => rfl⟩
theorem iff_no {q : Prop} (h : ¬ q) : (false = true ↔ q) := ⟨fun e => (by cases e), fun e => absurd e h⟩

def byteAt (s : ByteArray) (i : Nat) : Nat := (s.data[i]?.getD 0).toNat
theorem byteAt_eq (s : ByteArray) (i : Nat) (h : i < s.size) : s[i].toNat = byteAt s i := by
  unfold byteAt
  have h' : i < s.data.size := h
  rw [Array.getElem?_eq_getElem h']
  rfl
theorem byteAt_lt (s : ByteArray) (i : Nat) : byteAt s i < 256 := UInt8.toNat_lt _

def IsHex (c : Nat) : Bool → Prop := fun b => b = true ↔ Uu.hex c

set_option maxHeartbeats 400000 in
theorem hex_any (c : Nat) (hc : c < 256) (w : World) : Calls Try.prog 16 #[.int .u8 (c : Nat)] w fun e w' => BE (IsHex c) e ∧ w' = w := by
  rcases (show (c : Int) < 48 ∨ (48 ≤ (c : Int) ∧ (c : Int) ≤ 57) ∨ (57 < (c : Int) ∧ (c : Int) < 97) ∨ (97 ≤ (c : Int) ∧ (c : Int) ≤ 102) ∨ 102 < (c : Int) by omega) with h | ⟨h, h'⟩ | ⟨h, h'⟩ | ⟨h, h'⟩ | h
  · have HN : Hid (IsHex c false) := iff_no (by unfold Uu.hex; omega)
    go_enter Try.func16, Try.ntmps16
    go_wp2
    go_ret
    exact ⟨BE.eq HN.out (by first | rfl | (simp; omega)), rfl⟩
  · have HN : Hid (IsHex c true) := iff_yes (by unfold Uu.hex; omega)
    go_enter Try.func16, Try.ntmps16
    go_wp2
    go_ret
    exact ⟨BE.eq HN.out (by first | rfl | (simp; omega)), rfl⟩
  · have HN : Hid (IsHex c false) := iff_no (by unfold Uu.hex; omega)
    go_enter Try.func16, Try.ntmps16
    go_wp2
    go_ret
    exact ⟨BE.eq HN.out (by first | rfl | (simp; omega)), rfl⟩
  · have HN : Hid (IsHex c true) := iff_yes (by unfold Uu.hex; omega)
    go_enter Try.func16, Try.ntmps16
    go_wp2
    go_ret
    exact ⟨BE.eq HN.out (by first | rfl | (simp; omega)), rfl⟩
  · have HN : Hid (IsHex c false) := iff_no (by unfold Uu.hex; omega)
    go_enter Try.func16, Try.ntmps16
    go_wp2
    go_ret
    exact ⟨BE.eq HN.out (by first | rfl | (simp; omega)), rfl⟩

set_option maxHeartbeats 400000 in
theorem seglen_any (k : Nat) (hk : k ≤ 4) (w : World) : Calls Try.prog 15 #[.int .i64 (k : Nat)] w fun e w' => e = .returned (.int .i64 (Uu.sl k : Nat)) ∧ w' = w := by
  rcases (show k = 0 ∨ k = 1 ∨ k = 2 ∨ k = 3 ∨ k = 4 by omega) with rfl | rfl | rfl | rfl | rfl
  all_goals
    go_enter Try.func15, Try.ntmps15
    go_wp2
    go_ret
    exact ⟨rfl, rfl⟩

/-! ### segmentOK -/
def SegB (t : ByteArray) (k : Nat) : Bool → Prop := fun b => b = true ↔ Uu.SegP t.size (byteAt t) k
def HexTo (t : ByteArray) (k : Nat) : Prop := ∀ j, j < k → Uu.hex (byteAt t j)
theorem hexTo_succ {t : ByteArray} {k : Nat} (h : HexTo t k) (h1 : Uu.hex (byteAt t k)) : HexTo t (k + 1) := fun j hj => by
  by_cases e : j = k
  · subst e; exact h1
  · exact h j (by omega)

set_option maxHeartbeats 1000000 in
theorem segok_any (t : ByteArray) (k : Nat) (hk : k ≤ 4) (ht : t.size ≤ 9223372036854775807) (w : World) :
    Calls Try.prog 12 #[.string t, .int .i64 (k : Nat)] w fun e w' => BE (SegB t k) e ∧ w' = w := by
  by_cases hl : t.size = Uu.sl k
  · have hlz : ((t.size : Int) != (Uu.sl k : Nat)) = false := by simp [hl]
    have HL : Hid (t.size = Uu.sl k) := hl
    have hpos : 0 < t.size := by rw [hl]; unfold Uu.sl; split <;> (try split) <;> omega
    clear hl
    go_enter Try.func12, Try.ntmps12
    go_wp2_with fail
    refine (seglen_any k hk _).mono ?_
    rintro e w1 ⟨rfl, hw⟩
    subst w1
    go_wp2_with fail
    go_loopg [5] t.size (fun g i wr => wr = w ∧ ∃ j : Nat, j ≤ t.size ∧ g = t.size - j ∧ i = .int .i64 j ∧ HexTo t j)
    case atStart => exact ⟨rfl, 0, Nat.zero_le _, rfl, rfl, fun j hj => absurd hj (Nat.not_lt_zero _)⟩
    case round =>
      obtain ⟨hw, j, hj, rfl, rfl, hx⟩ := hrel
      subst wr
      by_cases hlt : j < t.size
      · have hltz : (j : Int) < (t.size : Int) := by omega
        obtain ⟨c, hc⟩ : ∃ c, byteAt t j = c := ⟨_, rfl⟩
        have hce : t[j].toNat = c := by rw [byteAt_eq, hc]
        have hcb : c < 256 := by rw [← hc]; exact byteAt_lt t j
        have HC : Hid (byteAt t j = c) := hc
        clear hc
        go_wp2_with fail
        refine (hex_any c hcb _).mono ?_
        rintro e w1 ⟨⟨b, rfl, hb⟩, hw⟩
        subst w1
        cases b
        · have HN : Hid (SegB t k false) := iff_no (fun h => by
            have h1 := h.2.1 j hlt
            rw [HC.out] at h1
            cases hb.2 h1)
          go_wp2_with fail
          go_ret
          exact ⟨BE.mk _ HN.out, rfl⟩
        · have HN : Hid (HexTo t (j + 1)) := hexTo_succ hx (by rw [HC.out]; exact hb.1 rfl)
          clear hb
          go_wp2_with fail
          go_roundg (t.size - (j + 1))
          case measure => go_light; omega
          case rel => go_light; exact ⟨rfl, j + 1, by omega, rfl, by go_num, HN.out⟩
      · have hltz : ¬ (j : Int) < (t.size : Int) := by omega
        obtain rfl : t.size = j := by omega
        obtain ⟨c, hc⟩ : ∃ c, byteAt t 0 = c := ⟨_, rfl⟩
        have hce : t[0].toNat = c := by rw [byteAt_eq, hc]
        have hcb : c < 256 := by rw [← hc]; exact byteAt_lt t 0
        have HC : Hid (byteAt t 0 = c) := hc
        clear hc
        by_cases hk2 : k = 2
        · have hk2z : ((k : Int) == 2) = true := by simp; omega
          have hk3z : ((k : Int) == 3) = false := by simp; omega
          by_cases h7 : c = 55
          · have h7z : ((c : Int) != 55) = false := by simp; omega
            have HN : Hid (SegB t k true) := iff_yes ⟨HL.out, hx, fun _ => by rw [HC.out]; exact h7, fun h => by omega⟩
            clear h7 hk2
            go_wp2_with fail
            go_ret
            exact ⟨BE.mk _ HN.out, rfl⟩
          · have h7z : ((c : Int) != 55) = true := by simp; omega
            have HN : Hid (SegB t k false) := iff_no (fun h => by have := h.2.2.1 hk2; rw [HC.out] at this; omega)
            clear hk2
            go_wp2_with fail
            go_ret
            exact ⟨BE.mk _ HN.out, rfl⟩
        · have hk2z : ((k : Int) == 2) = false := by simp; omega
          by_cases hk3 : k = 3
          · have hk3z : ((k : Int) == 3) = true := by simp; omega
            by_cases h4 : Uu.four c
            · have HN : Hid (SegB t k true) := iff_yes ⟨HL.out, hx, fun h => by omega, fun _ => by rw [HC.out]; exact h4⟩
              unfold Uu.four at h4
              clear hk3 hx HC hk2
              rcases h4 with h4 | h4 | h4 | h4
              · have h1 : ((c : Int) != 56) = false := by simp; omega
                clear h4
                go_wp2_with fail
                go_ret
                exact ⟨BE.mk _ HN.out, rfl⟩
              · have h1 : ((c : Int) != 56) = true := by simp; omega
                have h2 : ((c : Int) != 57) = false := by simp; omega
                clear h4
                go_wp2_with fail
                go_ret
                exact ⟨BE.mk _ HN.out, rfl⟩
              · have h1 : ((c : Int) != 56) = true := by simp; omega
                have h2 : ((c : Int) != 57) = true := by simp; omega
                have h3 : ((c : Int) != 97) = false := by simp; omega
                clear h4
                go_wp2_with fail
                go_ret
                exact ⟨BE.mk _ HN.out, rfl⟩
              · have h1 : ((c : Int) != 56) = true := by simp; omega
                have h2 : ((c : Int) != 57) = true := by simp; omega
                have h3 : ((c : Int) != 97) = true := by simp; omega
                have h4z : ((c : Int) != 98) = false := by simp; omega
                clear h4
                go_wp2_with fail
                go_ret
                exact ⟨BE.mk _ HN.out, rfl⟩
            · have HN : Hid (SegB t k false) := iff_no (fun h => by have := h.2.2.2 hk3; rw [HC.out] at this; exact h4 this)
              unfold Uu.four at h4
              have h1 : ((c : Int) != 56) = true := by simp; omega
              have h2 : ((c : Int) != 57) = true := by simp; omega
              have h3 : ((c : Int) != 97) = true := by simp; omega
              have h4z : ((c : Int) != 98) = true := by simp; omega
              clear hk3 h4 hx HC hk2
              go_wp2_with fail
              go_ret
              exact ⟨BE.mk _ HN.out, rfl⟩
          · have hk3z : ((k : Int) == 3) = false := by simp; omega
            have HN : Hid (SegB t k true) := iff_yes ⟨HL.out, hx, fun h => by omega, fun h => by omega⟩
            go_wp2_with fail
            go_ret
            exact ⟨BE.mk _ HN.out, rfl⟩
  · have hlz : ((t.size : Int) != (Uu.sl k : Nat)) = true := by simp; omega
    have HN : Hid (SegB t k false) := iff_no (fun h => hl h.1)
    go_enter Try.func12, Try.ntmps12
    go_wp2_with fail
    refine (seglen_any k hk _).mono ?_
    rintro e w1 ⟨rfl, hw⟩
    subst w1
    go_wp2_with fail
    go_ret
    exact ⟨BE.mk _ HN.out, rfl⟩

end Go.Proofs.Qxb6000077a
