/-
  FnMagnitudeOfNegationAgrees (function 4): one walk a way.
-/
import Derived.Test.Qxb6605342aMag
namespace Go.Proofs.Qxb6605342a
open Go.ChangeShapes Go.WideShapes Go.ChangeAt Go.RowKit

theorem neg_min (w : World) :
    Calls Try.prog 4 #[.int .i64 (-9223372036854775808)] w fun e w' => e = .returned (.bool true) ∧ w' = w := by
  go_enter Try.func4, Try.ntmps4
  go_wp2_with (go_at_call 7; refine (mag_min _).mono ?_; rintro e w' ⟨rfl, rfl⟩)
  go_ret
  exact ⟨rfl, rfl⟩

theorem neg_zero (w : World) :
    Calls Try.prog 4 #[.int .i64 0] w fun e w' => e = .returned (.bool true) ∧ w' = w := by
  have k1 : (0 : Int) ≤ 0 := by decide
  have k2 : (0 : Int) ≤ 9223372036854775807 := by decide
  go_enter Try.func4, Try.ntmps4
  go_wp2_with (go_at_call 7; refine (mag_pos _ k1 k2 _).mono ?_; rintro e w' ⟨rfl, rfl⟩)
  go_ret
  exact ⟨rfl, rfl⟩

theorem neg_below (a0 : Int) (h2 : a0 < 0) (h3 : -9223372036854775807 ≤ a0) (w : World) :
    Calls Try.prog 4 #[.int .i64 a0] w fun e w' => e = .returned (.bool true) ∧ w' = w := by
  have h4 : 0 ≤ -a0 := by omega
  have h5 : -a0 ≤ 9223372036854775807 := by omega
  have h6 : (-a0 != 0) = true := by simp; omega
  go_enter Try.func4, Try.ntmps4
  go_wp2_with (first | (go_at_call 7; refine (mag_neg a0 h2 h3 _).mono ?_; rintro e w' ⟨rfl, rfl⟩) | (go_at_call 7; refine (mag_pos (-a0) h4 h5 _).mono ?_; rintro e w' ⟨rfl, rfl⟩))
  go_ret
  exact ⟨rfl, rfl⟩

theorem neg_above (a0 : Int) (h5 : 0 < a0) (hhi : a0 ≤ 9223372036854775807) (w : World) :
    Calls Try.prog 4 #[.int .i64 a0] w fun e w' => e = .returned (.bool true) ∧ w' = w := by
  have h3 : -a0 < 0 := by omega
  have h4 : -9223372036854775807 ≤ -a0 := by omega
  have h7 : 0 ≤ a0 := by omega
  have h6 : (a0 != 0) = true := by simp; omega
  go_enter Try.func4, Try.ntmps4
  go_wp2_with (first | (go_at_call 7; refine (mag_pos a0 h7 hhi _).mono ?_; rintro e w' ⟨rfl, rfl⟩) | (go_at_call 7; refine (mag_neg (-a0) h3 h4 _).mono ?_; rintro e w' ⟨rfl, rfl⟩))
  go_ret
  exact ⟨ret_bool (by simp; omega), rfl⟩
end Go.Proofs.Qxb6605342a
