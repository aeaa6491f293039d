/-
  zzAllDigitsB1 (function 10): the counting model computes isD too; the laid length bounds.
-/
import Derived.Test.Qxb6605342aDigits
namespace Go.Proofs.Qxb6605342a
open Go.ChangeShapes Go.WideShapes Go.ChangeAt Go.RowKit

def cnt (l : List UInt8) : Nat := (l.filter dg).length
theorem cnt_le (l : List UInt8) : cnt l ≤ l.length := List.length_filter_le _ _
theorem cnt_yes (l : List UInt8) (c : UInt8) (h : dg c = true) : cnt (l ++ [c]) = cnt l + 1 := by simp [cnt, List.filter_append, h]
theorem cnt_no (l : List UInt8) (c : UInt8) (h : dg c = false) : cnt (l ++ [c]) = cnt l := by simp [cnt, List.filter_append, h]
theorem cnt_all (l : List UInt8) (h : cnt l = l.length) : l.all dg = true := by
  have := List.length_filter_eq_length_iff.1 h
  simpa [List.all_eq_true] using this
theorem isD_cnt (s : ByteArray) (h : 0 < s.size) : (((cnt (s.data.toList.take s.size) : Nat) : Int) == (s.size : Int)) = isD s := by
  rw [List.take_of_length_le (by simp)]
  rw [Bool.eq_iff_iff]
  constructor
  · intro hh
    have hh : (cnt s.data.toList : Int) = s.size := by simpa using hh
    exact isD_of_all s h (by rw [List.take_of_length_le (by simp)]; exact cnt_all _ (by simp; omega))
  · intro hh
    simp only [isD, Bool.and_eq_true, List.all_eq_true] at hh
    have : cnt s.data.toList = s.data.toList.length := List.length_filter_eq_length_iff.2 hh.2
    simp at this
    simp [this]

theorem allDigits_any (s : ByteArray) (w : World) (hs : s.size ≤ maxLen) :
    Calls Try.prog 10 #[.string s] w fun e w' => e = .returned (.bool (isD s)) ∧ w' = w := by
  unfold maxLen at hs
  go_enter Try.func10, Try.ntmps10
  go_wp2
  go_loop [3, 4] (fun n i => ∃ k : Nat, k ≤ s.size ∧ i = .int .i64 k ∧ ∃ m : Nat, m ≤ k ∧ n = .int .i64 m ∧ Hid (m = cnt (s.data.toList.take k))) (fun _ i => s.size - (intOf i).toNat)
  case atStart => exact ⟨0, Nat.zero_le _, rfl, 0, Nat.zero_le _, rfl, rfl⟩
  case round =>
    obtain ⟨k, hk, rfl, m, hm, rfl, HM⟩ := hrel
    by_cases hlt : k < s.size
    · have hts : Hid (s.data.toList.take (k + 1) = s.data.toList.take k ++ [s[k]]) := take_snoc s k hlt
      by_cases hc : 48 ≤ (s[k].toNat : Int) ∧ (s[k].toNat : Int) ≤ 57
      · obtain ⟨hc, hc'⟩ := hc
        have HI : Hid (dg s[k] = true) := by show dg s[k] = true; unfold dg; rw [decide_eq_true_iff]; omega
        go_wp2_with (go_at_call 14; refine (isDigitByte_yes _ _ hc hc').mono ?_; rintro e w' ⟨rfl, rfl⟩)
        go_round
        case rel => exact ⟨k + 1, by omega, by go_num, m + 1, by omega, by go_num, by show _ = _; rw [hts.out, cnt_yes _ _ HI.out, ← HM.out]⟩
        case measure => simp [intOf]; omega
      · have hc2 : (s[k].toNat : Int) < 48 ∨ 57 < (s[k].toNat : Int) := by omega
        have HI : Hid (dg s[k] = false) := by show dg s[k] = false; unfold dg; rw [decide_eq_false_iff_not]; omega
        have HC : Hid ((s[k].toNat : Int) < 48 ∨ 57 < (s[k].toNat : Int)) := hc2
        clear hc hc2
        go_wp2_with (go_at_call 14; refine (isDigitByte_no _ _ HC.out).mono ?_; rintro e w' ⟨rfl, rfl⟩)
        go_round
        case rel => exact ⟨k + 1, by omega, by go_num, m, by omega, by go_num, by show _ = _; rw [hts.out, cnt_no _ _ HI.out, ← HM.out]⟩
        case measure => simp [intOf]; omega
    · obtain rfl : k = s.size := by omega
      by_cases h0 : 0 < s.size
      · have HI : Hid (((m : Int) == (s.size : Int)) = isD s) := by show _ = _; rw [HM.out]; exact isD_cnt s h0
        go_wp2
        go_ret
        exact ⟨ret_bool' (by rw [← HI.out]), rfl⟩
      · have HI : Hid (isD s = false) := isD_empty s (by omega)
        have h1 : s.size ≤ 0 := by omega
        go_wp2
        go_ret
        exact ⟨ret_bool' HI.out.symm, rfl⟩

/-- The laid bound: at most 1<<20 bytes. -/
theorem bound1_yes (s : ByteArray) (w : World) (h : s.size ≤ 1048576) :
    Calls Try.prog 8 #[.string s] w fun e w' => e = .returned (.bool true) ∧ w' = w := by
  go_enter Try.func8, Try.ntmps8
  go_wp2
  go_ret
  exact ⟨rfl, rfl⟩
theorem bound1_no (s : ByteArray) (w : World) (h : 1048576 < s.size) :
    Calls Try.prog 8 #[.string s] w fun e w' => e = .returned (.bool false) ∧ w' = w := by
  go_enter Try.func8, Try.ntmps8
  go_wp2
  go_ret
  exact ⟨rfl, rfl⟩

theorem counts_any (s : ByteArray) (w : World) (hs : s.size ≤ maxLen) :
    Calls Try.prog 5 #[.string s] w fun e w' => e = .returned (.bool true) ∧ w' = w := by
  by_cases h : s.size ≤ 1048576
  · go_enter Try.func5, Try.ntmps5
    go_wp2_with (first | (go_at_call 8; refine (bound1_yes _ _ h).mono ?_; rintro e w' ⟨rfl, rfl⟩) | (go_at_call 9; refine (zzIsDigits_any _ _ hs).mono ?_; rintro e w' ⟨rfl, rfl⟩) | (go_at_call 10; refine (allDigits_any _ _ hs).mono ?_; rintro e w' ⟨rfl, rfl⟩))
    go_ret
    exact ⟨ret_bool' (by simp), rfl⟩
  · have h' : 1048576 < s.size := by omega
    go_enter Try.func5, Try.ntmps5
    go_wp2_with (go_at_call 8; refine (bound1_no _ _ h').mono ?_; rintro e w' ⟨rfl, rfl⟩)
    go_ret
    exact ⟨rfl, rfl⟩
end Go.Proofs.Qxb6605342a
