/-
  Seat b6605386a: FnValidNumberReadsWrittenNumber (4): the contracts of its small callees, and the ways on which the law lets an input by.
-/
import Derived.Test.Qxb6605386aAppend
namespace Go.Proofs.Qxb6605386a
open Go.ChangeShapes Go.WideShapes Go.ChangeAt Go.RowKit

/-- A byte that could lengthen a number just written. -/
def cont (c : Int) : Bool := dig c || decide (c = 46) || isE c
theorem cont_no {c : Int} (h : cont c = false) : dig c = false ∧ ¬ c = 46 ∧ isE c = false := by
  simpa [cont, and_assoc] using h

theorem continues_yes (c : Int) (w : World) (h : cont c = true) : Calls Try.prog 13 #[.int .u8 c] w fun e w' => e = .returned (.bool true) ∧ w' = w := by
  cases hd : dig c with
  | true =>
    clear h
    go_enter Try.func13, Try.ntmps13
    go_wp2_with (go_at_call 34; refine (numIsDigit_any _ _).mono ?_; rintro e w' ⟨rfl, rfl⟩)
    go_ret
    exact ⟨rfl, rfl⟩
  | false =>
    have h' : c = 46 ∨ c = 101 ∨ c = 69 := by simpa [cont, hd, isE] using h
    clear h
    rcases h' with rfl | rfl | rfl
    all_goals
      go_enter Try.func13, Try.ntmps13
      go_wp2_with (go_at_call 34; refine (numIsDigit_any _ _).mono ?_; rintro e w' ⟨rfl, rfl⟩)
      go_ret
      exact ⟨rfl, rfl⟩
theorem continues_no (c : Int) (w : World) (h : cont c = false) : Calls Try.prog 13 #[.int .u8 c] w fun e w' => e = .returned (.bool false) ∧ w' = w := by
  obtain ⟨hd, h1, h2⟩ := cont_no h
  have g1 : (c == 46) = false := by rw [beq_eq_false_iff_ne]; exact h1
  unfold isE at h2
  rw [decide_eq_false_iff_not] at h2
  have g2 : (c == 101) = false := by rw [beq_eq_false_iff_ne]; omega
  have g3 : (c == 69) = false := by rw [beq_eq_false_iff_ne]; omega
  clear h h1 h2
  go_enter Try.func13, Try.ntmps13
  go_wp2_with (go_at_call 34; refine (numIsDigit_any _ _).mono ?_; rintro e w' ⟨rfl, rfl⟩)
  go_ret
  exact ⟨rfl, rfl⟩

theorem bound2_yes (a0 a9 : Option Addr) (n0 c0 n9 c9 : Nat) (x1 x3 x4 x8 : Int) (b2 b5 b6 b7 : Bool) (w : World) (h : n0 + n9 ≤ 1048576) :
    Calls Try.prog 12 #[.slice a0 n0 c0, .int .i64 x1, .bool b2, .int .u8 x3, .int .u64 x4, .bool b5, .bool b6, .bool b7, .int .i64 x8, .slice a9 n9 c9] w fun e w' => e = .returned (.bool true) ∧ w' = w := by
  go_enter Try.func12, Try.ntmps12
  go_wp2
  go_ret
  exact ⟨rfl, rfl⟩
theorem bound2_no (a0 a9 : Option Addr) (n0 c0 n9 c9 : Nat) (x1 x3 x4 x8 : Int) (b2 b5 b6 b7 : Bool) (w : World) (h0 : n0 ≤ 9223372036854775807) (h9 : n9 ≤ 9223372036854775807) (h : 1048576 < n0 + n9) :
    Calls Try.prog 12 #[.slice a0 n0 c0, .int .i64 x1, .bool b2, .int .u8 x3, .int .u64 x4, .bool b5, .bool b6, .bool b7, .int .i64 x8, .slice a9 n9 c9] w fun e w' => e = .returned (.bool false) ∧ w' = w := by
  by_cases k0 : 1048576 < n0
  · go_enter Try.func12, Try.ntmps12
    go_wp2
    go_ret
    exact ⟨rfl, rfl⟩
  · by_cases k9 : 1048576 < n9
    · go_enter Try.func12, Try.ntmps12
      go_wp2
      go_ret
      exact ⟨rfl, rfl⟩
    · go_enter Try.func12, Try.ntmps12
      go_wp2
      go_ret
      exact ⟨rfl, rfl⟩

theorem law2_long (a0 a9 : Option Addr) (n0 c0 n9 c9 : Nat) (x1 x3 x4 x8 : Int) (b2 b5 b6 b7 : Bool) (w : World) (h0 : n0 ≤ 9223372036854775807) (h9 : n9 ≤ 9223372036854775807) (h : 1048576 < n0 + n9) :
    Calls Try.prog 4 #[.slice a0 n0 c0, .int .i64 x1, .bool b2, .int .u8 x3, .int .u64 x4, .bool b5, .bool b6, .bool b7, .int .i64 x8, .slice a9 n9 c9] w fun e w' => e = .returned (.bool true) ∧ Below w.heap.size w w' := by
  go_enter Try.func4, Try.ntmps4
  go_wp2_with (go_at_call 12; refine (bound2_no _ _ _ _ _ _ _ _ _ _ _ _ _ _ _ h0 h9 h).mono ?_; rintro e w' ⟨rfl, rfl⟩)
  go_ret
  exact ⟨rfl, Below.refl _ _⟩

theorem law2_cont (a0 : Option Addr) (b off n0 c0 n9 c9 : Nat) (x1 x3 x4 x8 : Int) (b2 b5 b6 b7 : Bool) (c : Int) (w : World) (h : n0 + n9 ≤ 1048576) (h9 : 0 < n9) (hc : w.cell? ⟨b, off, none⟩ = some (.int .u8 c)) (hcont : cont c = true) :
    Calls Try.prog 4 #[.slice a0 n0 c0, .int .i64 x1, .bool b2, .int .u8 x3, .int .u64 x4, .bool b5, .bool b6, .bool b7, .int .i64 x8, .slice (some ⟨b, off, none⟩) n9 c9] w fun e w' => e = .returned (.bool true) ∧ Below w.heap.size w w' := by
  go_enter Try.func4, Try.ntmps4
  go_wp2_with (first
    | (go_at_call 12; refine (bound2_yes _ _ _ _ _ _ _ _ _ _ _ _ _ _ _ h).mono ?_; rintro e w' ⟨rfl, rfl⟩)
    | (go_at_call 13; refine (continues_yes _ _ hcont).mono ?_; rintro e w' ⟨rfl, rfl⟩))
  go_ret
  exact ⟨rfl, Below.refl _ _⟩
end Go.Proofs.Qxb6605386a
