/-
  isDigits, zzAllDigitsB1, zzIsDigitByteB1: what each computes.
-/
import Derived.Test.Qxb6605342aRows
import Derived.WalkKit
import Derived.ProofKit
namespace Go.Proofs.Qxb6605342a
open Go.ChangeShapes Go.WideShapes Go.ChangeAt Go.RowKit

def dg (c : UInt8) : Bool := decide (48 ≤ (c.toNat : Int) ∧ (c.toNat : Int) ≤ 57)
def isD (s : ByteArray) : Bool := decide (0 < s.size) && s.data.toList.all dg

theorem take_snoc (s : ByteArray) (k : Nat) (h : k < s.size) : s.data.toList.take (k + 1) = s.data.toList.take k ++ [s[k]] := by
  rw [List.take_succ_eq_append_getElem (by simpa using h)]; rfl

theorem isD_of_all (s : ByteArray) (h : 0 < s.size) (ha : (s.data.toList.take s.size).all dg = true) : isD s = true := by
  rw [List.take_of_length_le (by simp)] at ha
  simp [isD, h, ha]

theorem isD_of_bad (s : ByteArray) (k : Nat) (h : k < s.size) (hb : dg s[k] = false) : isD s = false := by
  have : s.data.toList.all dg = false := by
    rw [List.all_eq_false]
    refine ⟨s[k], ?_, by simp [hb]⟩
    exact List.getElem_mem (l := s.data.toList) (n := k) (by simpa using h)
  simp [isD, this]

theorem isD_empty (s : ByteArray) (h : s.size = 0) : isD s = false := by simp [isD, h]

theorem isEmpty_of (s : ByteArray) (h : s.size = 0) : s.toList.isEmpty = true := by
  rw [ByteArray.toList_eq, List.isEmpty_iff_length_eq_zero]
  simpa using h
theorem isEmpty_not (s : ByteArray) (h : 0 < s.size) : s.toList.isEmpty = false := by
  rw [ByteArray.toList_eq, List.isEmpty_eq_false_iff, ← List.length_pos_iff]
  simpa using h

theorem ret_bool' {a b : Bool} (h : a = b) : Ending.returned (.bool a) = .returned (.bool b) := by rw [h]

theorem isDigits_any (s : ByteArray) (w : World) (hs : s.size ≤ maxLen) :
    Calls Try.prog 13 #[.string s] w fun e w' => e = .returned (.bool (isD s)) ∧ w' = w := by
  unfold maxLen at hs
  by_cases h0 : s.size = 0
  · have hE := isEmpty_of s h0
    have HI : Hid (isD s = false) := isD_empty s h0
    clear h0
    go_enter Try.func13, Try.ntmps13
    go_wp2
    go_ret
    exact ⟨ret_bool' HI.out.symm, rfl⟩
  · have h0 : 0 < s.size := by omega
    have hE := isEmpty_not s h0
    go_enter Try.func13, Try.ntmps13
    go_wp2
    go_loop [8] (fun i => ∃ k : Nat, k ≤ s.size ∧ i = .int .i64 k ∧ Hid ((s.data.toList.take k).all dg = true)) (fun i => s.size - (intOf i).toNat)
    case atStart => exact ⟨0, Nat.zero_le _, rfl, rfl⟩
    case round =>
      obtain ⟨k, hk, rfl, hall⟩ := hrel
      by_cases hlt : k < s.size
      · have hts : Hid (s.data.toList.take (k + 1) = s.data.toList.take k ++ [s[k]]) := take_snoc s k hlt
        rcases (show (s[k].toNat : Int) < 48 ∨ 57 < (s[k].toNat : Int) ∨ (48 ≤ (s[k].toNat : Int) ∧ (s[k].toNat : Int) ≤ 57) from by omega) with hc | hc | ⟨hc, hc'⟩
        · have HI : Hid (isD s = false) := isD_of_bad s k hlt (by unfold dg; rw [decide_eq_false_iff_not]; omega)
          go_wp2
          go_ret
          exact ⟨ret_bool' HI.out.symm, rfl⟩
        · have HI : Hid (isD s = false) := isD_of_bad s k hlt (by unfold dg; rw [decide_eq_false_iff_not]; omega)
          go_wp2
          go_ret
          exact ⟨ret_bool' HI.out.symm, rfl⟩
        · have HI : Hid (dg s[k] = true) := by show dg s[k] = true; unfold dg; rw [decide_eq_true_iff]; omega
          go_wp2
          go_round
          case rel => exact ⟨k + 1, by omega, by go_num, by show _ = true; rw [hts.out, List.all_append, hall.out]; simp [HI.out]⟩
          case measure => simp [intOf]; omega
      · obtain rfl : k = s.size := by omega
        have HI : Hid (isD s = true) := isD_of_all s h0 hall.out
        go_wp2
        go_ret
        exact ⟨ret_bool' HI.out.symm, rfl⟩

theorem zzIsDigits_any (s : ByteArray) (w : World) (hs : s.size ≤ maxLen) :
    Calls Try.prog 9 #[.string s] w fun e w' => e = .returned (.bool (isD s)) ∧ w' = w := by
  go_enter Try.func9, Try.ntmps9
  go_wp2_with (go_at_call 13; refine (isDigits_any _ _ hs).mono ?_; rintro e w' ⟨rfl, rfl⟩)
  go_ret
  exact ⟨rfl, rfl⟩

def dgI (c : Int) : Bool := decide (48 ≤ c ∧ c ≤ 57)
theorem isDigitByte_no (c : Int) (w : World) (h : c < 48 ∨ 57 < c) :
    Calls Try.prog 14 #[.int .u8 c] w fun e w' => e = .returned (.bool false) ∧ w' = w := by
  rcases h with h | h
  · go_enter Try.func14, Try.ntmps14
    go_wp2
    go_ret
    exact ⟨rfl, rfl⟩
  · go_enter Try.func14, Try.ntmps14
    go_wp2
    go_ret
    exact ⟨rfl, rfl⟩

theorem isDigitByte_yes (c : Int) (w : World) (h : 48 ≤ c) (h' : c ≤ 57) :
    Calls Try.prog 14 #[.int .u8 c] w fun e w' => e = .returned (.bool true) ∧ w' = w := by
  have h2 : c = 48 ∨ c = 49 ∨ c = 50 ∨ c = 51 ∨ c = 52 ∨ c = 53 ∨ c = 54 ∨ c = 55 ∨ c = 56 ∨ c = 57 := by omega
  clear h h'
  rcases h2 with rfl | rfl | rfl | rfl | rfl | rfl | rfl | rfl | rfl | rfl
  all_goals
    go_enter Try.func14, Try.ntmps14
    go_wp2
    go_ret
    exact ⟨rfl, rfl⟩

end Go.Proofs.Qxb6605342a
