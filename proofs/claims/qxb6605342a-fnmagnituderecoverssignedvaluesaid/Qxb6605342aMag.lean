import Derived.Test.Qxb6605342aRows
import Derived.WalkKit
import Derived.ProofKit
namespace Go.Proofs.Qxb6605342a
open Go.ChangeShapes Go.WideShapes Go.ChangeAt Go.RowKit

theorem min_wrap : IntKind.u64.wrap (wrap64 9223372036854775808) = 9223372036854775808 := by
  unfold wrap64
  decide
theorem ret_tuple {a b : Int} {v : Value} (h : a = b) : Ending.returned (.tuple #[.int .u64 a, v]) = .returned (.tuple #[.int .u64 b, v]) := by rw [h]

theorem ret_bool {b : Bool} (h : b = true) : Ending.returned (.bool b) = .returned (.bool true) := by rw [h]
theorem back (a : Int) (h0 : a < 0) (h1 : -9223372036854775808 ≤ a) : wrap64 (IntKind.u64.wrap a) = a := by
  simp only [wrap64, IntKind.wrap, IntKind.bits, IntKind.signed]
  simp
  omega

theorem mag_pos (c : Int) (h0 : 0 ≤ c) (h1 : c ≤ 9223372036854775807) (w : World) :
    Calls Try.prog 7 #[.int .i64 c] w fun e w' => e = .returned (.tuple #[.int .u64 c, .bool false]) ∧ w' = w := by
  go_enter Try.func7, Try.ntmps7
  go_wp2
  go_ret2
  exact ⟨rfl, rfl⟩

theorem mag_neg (c : Int) (h0 : c < 0) (h1 : -9223372036854775807 ≤ c) (w : World) :
    Calls Try.prog 7 #[.int .i64 c] w fun e w' => e = .returned (.tuple #[.int .u64 (-c), .bool true]) ∧ w' = w := by
  go_enter Try.func7, Try.ntmps7
  go_wp2
  go_ret2
  exact ⟨rfl, rfl⟩

theorem mag_min (w : World) :
    Calls Try.prog 7 #[.int .i64 (-9223372036854775808)] w fun e w' => e = .returned (.tuple #[.int .u64 9223372036854775808, .bool true]) ∧ w' = w := by
  go_enter Try.func7, Try.ntmps7
  go_wp2
  go_ret2
  exact ⟨ret_tuple min_wrap, rfl⟩
end Go.Proofs.Qxb6605342a
