/-
  FnIsDigitsOfConcatenation (function 6).
-/
import Derived.Test.Qxb6605342aAllDigits
namespace Go.Proofs.Qxb6605342a
open Go.ChangeShapes Go.WideShapes Go.ChangeAt Go.RowKit

theorem bound2_yes (a b : ByteArray) (w : World) (h : a.size + b.size ≤ 1048576) :
    Calls Try.prog 11 #[.string a, .string b] w fun e w' => e = .returned (.bool true) ∧ w' = w := by
  go_enter Try.func11, Try.ntmps11
  go_wp2
  go_ret
  exact ⟨rfl, rfl⟩
theorem bound2_no (a b : ByteArray) (w : World) (ha : a.size ≤ 9223372036854775807) (hb : b.size ≤ 9223372036854775807) (h : 1048576 < a.size + b.size) :
    Calls Try.prog 11 #[.string a, .string b] w fun e w' => e = .returned (.bool false) ∧ w' = w := by
  by_cases h1 : 1048576 < a.size
  · go_enter Try.func11, Try.ntmps11
    go_wp2
    go_ret
    exact ⟨rfl, rfl⟩
  · by_cases h2 : 1048576 < b.size
    · go_enter Try.func11, Try.ntmps11
      go_wp2
      go_ret
      exact ⟨rfl, rfl⟩
    · go_enter Try.func11, Try.ntmps11
      go_wp2
      go_ret
      exact ⟨rfl, rfl⟩

theorem isD_app (a b : ByteArray) (ha : 0 < a.size) (hb : 0 < b.size) : isD (a ++ b) = (isD a && isD b) := by
  have h : 0 < a.size + b.size := by omega
  simp [isD, ha, hb, h]

set_option maxHeartbeats 1600000 in
/-- The walk with every test decided. -/
theorem concat_walk (a b : ByteArray) (w : World) (h : a.size + b.size ≤ 1048576) (ta tb pa pb tg x : Bool) (hE : a.toList.isEmpty = ta) (hF : b.toList.isEmpty = tb) (hG : (a ++ b).toList.isEmpty = tg) (hT : tg = (ta && tb))
    (hA : isD a = pa) (hB : isD b = pb) (hC : isD (a ++ b) = x) (hX : x = (!(ta && tb) && (ta || pa) && (tb || pb))) (h1 : (ta && pa) = false) (h2 : (tb && pb) = false) :
    Calls Try.prog 6 #[.string a, .string b] w fun e w' => e = .returned (.bool true) ∧ w' = w := by
  have k1 : a.size ≤ maxLen := by unfold maxLen; omega
  have k2 : b.size ≤ maxLen := by unfold maxLen; omega
  have k3 : (a ++ b).size ≤ maxLen := by rw [ByteArray.size_append]; unfold maxLen; omega
  cases ta <;> cases tb <;> cases pa <;> cases pb <;> cases tg <;> cases x <;> simp at h1 h2 hT hX
  all_goals
    go_enter Try.func6, Try.ntmps6
    go_wp2_with (first | (go_at_call 11; refine (bound2_yes _ _ _ h).mono ?_; rintro e w' ⟨rfl, rfl⟩) | (go_at_call 9; refine (zzIsDigits_any _ _ (by assumption)).mono ?_; rintro e w' ⟨rfl, rfl⟩) | (go_at_call 10; refine (allDigits_any _ _ (by assumption)).mono ?_; rintro e w' ⟨rfl, rfl⟩))
    go_ret
    exact ⟨rfl, rfl⟩

theorem concat_any (a b : ByteArray) (w : World) (ha : a.size ≤ maxLen) (hb : b.size ≤ maxLen) :
    Calls Try.prog 6 #[.string a, .string b] w fun e w' => e = .returned (.bool true) ∧ w' = w := by
  by_cases h : a.size + b.size ≤ 1048576
  · by_cases h1 : 0 < a.size
    · by_cases h2 : 0 < b.size
      · exact concat_walk a b w h false false (isD a) (isD b) false (isD a && isD b) (isEmpty_not a h1) (isEmpty_not b h2) (isEmpty_not _ (by rw [ByteArray.size_append]; omega)) rfl rfl rfl (isD_app a b h1 h2) (by simp) rfl rfl
      · have e : b = ByteArray.empty := by
          have := ByteArray.size_eq_zero_iff.1 (show b.size = 0 by omega)
          exact this
        subst e
        exact concat_walk a _ w h false true (isD a) false false (isD a) (isEmpty_not a h1) (isEmpty_of _ rfl) (isEmpty_not _ (by rw [ByteArray.size_append]; omega)) rfl rfl (isD_empty _ rfl) (by simp) (by simp) rfl rfl
    · have e : a = ByteArray.empty := ByteArray.size_eq_zero_iff.1 (show a.size = 0 by omega)
      subst e
      by_cases h2 : 0 < b.size
      · exact concat_walk _ b w h true false false (isD b) false (isD b) (isEmpty_of _ rfl) (isEmpty_not b h2) (isEmpty_not _ (by rw [ByteArray.size_append]; omega)) rfl (isD_empty _ rfl) rfl (by simp) (by simp) rfl rfl
      · have e : b = ByteArray.empty := ByteArray.size_eq_zero_iff.1 (show b.size = 0 by omega)
        subst e
        exact concat_walk _ _ w h true true false false true false (isEmpty_of _ rfl) (isEmpty_of _ rfl) (isEmpty_of _ rfl) rfl (isD_empty _ rfl) (isD_empty _ rfl) (isD_empty _ rfl) rfl rfl rfl
  · unfold maxLen at ha hb
    have h' : 1048576 < a.size + b.size := by omega
    go_enter Try.func6, Try.ntmps6
    go_wp2_with (go_at_call 11; refine (bound2_no _ _ _ (by omega) (by omega) h').mono ?_; rintro e w' ⟨rfl, rfl⟩)
    go_ret
    exact ⟨rfl, rfl⟩
end Go.Proofs.Qxb6605342a
