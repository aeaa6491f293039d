/-
  Seat b6605386a: the law's own automaton: jsb1NumIsDigit (34), jsb1NumStep (32), jsb1NumAccepts (33), jsb1NumModel (11).
-/
import Derived.Test.Qxb6605386aRows
import Derived.Test.Qxb6605386aMath
import Derived.ProofKit
namespace Go.Proofs.Qxb6605386a
open Go.ChangeShapes Go.WideShapes Go.ChangeAt Go.RowKit

theorem ret_int {k : IntKind} {a b : Int} (h : a = b) : Ending.returned (.int k a) = .returned (.int k b) := by rw [h]
theorem ret_bool' {a b : Bool} (h : a = b) : Ending.returned (.bool a) = .returned (.bool b) := by rw [h]

theorem numIsDigit_any (c : Int) (w : World) : Calls Try.prog 34 #[.int .u8 c] w fun e w' => e = .returned (.bool (dig c)) ∧ w' = w := by
  by_cases h : 48 ≤ c
  · by_cases h' : c ≤ 57
    · have H : Hid (dig c = true) := (dig_iff c).2 ⟨h, h'⟩
      go_enter Try.func34, Try.ntmps34
      go_wp2
      go_ret
      exact ⟨ret_bool' (by rw [H.out]), rfl⟩
    · have H : Hid (dig c = false) := (dig_no c).2 (by omega)
      go_enter Try.func34, Try.ntmps34
      go_wp2
      go_ret
      exact ⟨ret_bool' (by rw [H.out]), rfl⟩
  · have H : Hid (dig c = false) := (dig_no c).2 (by omega)
    go_enter Try.func34, Try.ntmps34
    go_wp2
    go_ret
    exact ⟨ret_bool' (by rw [H.out]), rfl⟩

theorem numAccepts_any (st : Int) (w : World) (h0 : 0 ≤ st) (h8 : st ≤ 8) : Calls Try.prog 33 #[.int .i64 st] w fun e w' => e = .returned (.bool (acc st)) ∧ w' = w := by
  have h : st = 0 ∨ st = 1 ∨ st = 2 ∨ st = 3 ∨ st = 4 ∨ st = 5 ∨ st = 6 ∨ st = 7 ∨ st = 8 := by omega
  clear h0 h8
  rcases h with rfl | rfl | rfl | rfl | rfl | rfl | rfl | rfl | rfl
  all_goals
    go_enter Try.func33, Try.ntmps33
    go_wp2
    go_ret
    exact ⟨rfl, rfl⟩

/-- Every state of the table. -/
def St (st : Int) : Prop := st = 0 ∨ st = 1 ∨ st = 2 ∨ st = 3 ∨ st = 4 ∨ st = 5 ∨ st = 6 ∨ st = 7 ∨ st = 8
theorem numStep_minus (st : Int) (hst : St st) (w : World) : Calls Try.prog 32 #[.int .i64 st, .int .u8 45] w fun e w' => e = .returned (.int .i64 (step st 45)) ∧ w' = w := by
  have hd : dig 45 = false := rfl
  rcases hst with rfl | rfl | rfl | rfl | rfl | rfl | rfl | rfl | rfl
  all_goals
    go_enter Try.func32, Try.ntmps32
    go_wp2_with (go_at_call 34; refine (numIsDigit_any _ _).mono ?_; rintro e w' ⟨rfl, rfl⟩)
    go_ret
    exact ⟨rfl, rfl⟩
theorem numStep_plus (st : Int) (hst : St st) (w : World) : Calls Try.prog 32 #[.int .i64 st, .int .u8 43] w fun e w' => e = .returned (.int .i64 (step st 43)) ∧ w' = w := by
  have hd : dig 43 = false := rfl
  rcases hst with rfl | rfl | rfl | rfl | rfl | rfl | rfl | rfl | rfl
  all_goals
    go_enter Try.func32, Try.ntmps32
    go_wp2_with (go_at_call 34; refine (numIsDigit_any _ _).mono ?_; rintro e w' ⟨rfl, rfl⟩)
    go_ret
    exact ⟨rfl, rfl⟩
theorem numStep_point (st : Int) (hst : St st) (w : World) : Calls Try.prog 32 #[.int .i64 st, .int .u8 46] w fun e w' => e = .returned (.int .i64 (step st 46)) ∧ w' = w := by
  have hd : dig 46 = false := rfl
  rcases hst with rfl | rfl | rfl | rfl | rfl | rfl | rfl | rfl | rfl
  all_goals
    go_enter Try.func32, Try.ntmps32
    go_wp2_with (go_at_call 34; refine (numIsDigit_any _ _).mono ?_; rintro e w' ⟨rfl, rfl⟩)
    go_ret
    exact ⟨rfl, rfl⟩
theorem numStep_zero (st : Int) (hst : St st) (w : World) : Calls Try.prog 32 #[.int .i64 st, .int .u8 48] w fun e w' => e = .returned (.int .i64 (step st 48)) ∧ w' = w := by
  have hd : dig 48 = true := rfl
  rcases hst with rfl | rfl | rfl | rfl | rfl | rfl | rfl | rfl | rfl
  all_goals
    go_enter Try.func32, Try.ntmps32
    go_wp2_with (go_at_call 34; refine (numIsDigit_any _ _).mono ?_; rintro e w' ⟨rfl, rfl⟩)
    go_ret
    exact ⟨rfl, rfl⟩
theorem numStep_e (st : Int) (hst : St st) (w : World) : Calls Try.prog 32 #[.int .i64 st, .int .u8 101] w fun e w' => e = .returned (.int .i64 (step st 101)) ∧ w' = w := by
  have hd : dig 101 = false := rfl
  rcases hst with rfl | rfl | rfl | rfl | rfl | rfl | rfl | rfl | rfl
  all_goals
    go_enter Try.func32, Try.ntmps32
    go_wp2_with (go_at_call 34; refine (numIsDigit_any _ _).mono ?_; rintro e w' ⟨rfl, rfl⟩)
    go_ret
    exact ⟨rfl, rfl⟩
theorem numStep_E (st : Int) (hst : St st) (w : World) : Calls Try.prog 32 #[.int .i64 st, .int .u8 69] w fun e w' => e = .returned (.int .i64 (step st 69)) ∧ w' = w := by
  have hd : dig 69 = false := rfl
  rcases hst with rfl | rfl | rfl | rfl | rfl | rfl | rfl | rfl | rfl
  all_goals
    go_enter Try.func32, Try.ntmps32
    go_wp2_with (go_at_call 34; refine (numIsDigit_any _ _).mono ?_; rintro e w' ⟨rfl, rfl⟩)
    go_ret
    exact ⟨rfl, rfl⟩
theorem numStep_digit (st c : Int) (hst : St st) (h0 : 49 ≤ c) (h1 : c ≤ 57) (w : World) : Calls Try.prog 32 #[.int .i64 st, .int .u8 c] w fun e w' => e = .returned (.int .i64 (step st c)) ∧ w' = w := by
  have hd : dig c = true := (dig_iff c).2 (by omega)
  have H : Hid (¬ c = 45 ∧ ¬ c = 48 ∧ ¬ c = 46 ∧ dig c = true ∧ isE c = false ∧ sgn c = false) := ⟨by omega, by omega, by omega, hd, by unfold isE; rw [decide_eq_false_iff_not]; omega, by unfold sgn; rw [decide_eq_false_iff_not]; omega⟩
  have g45 : (c == 45) = false := by rw [beq_eq_false_iff_ne]; omega
  have g43 : (c == 43) = false := by rw [beq_eq_false_iff_ne]; omega
  have g46 : (c == 46) = false := by rw [beq_eq_false_iff_ne]; omega
  have g48 : (c == 48) = false := by rw [beq_eq_false_iff_ne]; omega
  have g101 : (c == 101) = false := by rw [beq_eq_false_iff_ne]; omega
  have g69 : (c == 69) = false := by rw [beq_eq_false_iff_ne]; omega
  clear h0 h1
  rcases hst with rfl | rfl | rfl | rfl | rfl | rfl | rfl | rfl | rfl
  all_goals
    go_enter Try.func32, Try.ntmps32
    go_wp2_with (go_at_call 34; refine (numIsDigit_any _ _).mono ?_; rintro e w' ⟨rfl, rfl⟩)
    go_ret
    exact ⟨ret_int (by simp [step, H.out]), rfl⟩
theorem numStep_other (st c : Int) (hst : St st) (h0 : ¬ c = 45) (h1 : ¬ c = 43) (h2 : ¬ c = 46) (h3 : c < 48 ∨ 57 < c) (h4 : ¬ c = 101) (h5 : ¬ c = 69) (w : World) : Calls Try.prog 32 #[.int .i64 st, .int .u8 c] w fun e w' => e = .returned (.int .i64 (step st c)) ∧ w' = w := by
  have hd : dig c = false := (dig_no c).2 (by omega)
  have H : Hid (¬ c = 45 ∧ ¬ c = 48 ∧ ¬ c = 46 ∧ dig c = false ∧ isE c = false ∧ sgn c = false) := ⟨by omega, by omega, by omega, hd, by unfold isE; rw [decide_eq_false_iff_not]; omega, by unfold sgn; rw [decide_eq_false_iff_not]; omega⟩
  have g45 : (c == 45) = false := by rw [beq_eq_false_iff_ne]; omega
  have g43 : (c == 43) = false := by rw [beq_eq_false_iff_ne]; omega
  have g46 : (c == 46) = false := by rw [beq_eq_false_iff_ne]; omega
  have g48 : (c == 48) = false := by rw [beq_eq_false_iff_ne]; omega
  have g101 : (c == 101) = false := by rw [beq_eq_false_iff_ne]; omega
  have g69 : (c == 69) = false := by rw [beq_eq_false_iff_ne]; omega
  clear h0 h1 h2 h3 h4 h5
  rcases hst with rfl | rfl | rfl | rfl | rfl | rfl | rfl | rfl | rfl
  all_goals
    go_enter Try.func32, Try.ntmps32
    go_wp2_with (go_at_call 34; refine (numIsDigit_any _ _).mono ?_; rintro e w' ⟨rfl, rfl⟩)
    go_ret
    exact ⟨ret_int (by simp [step, H.out]), rfl⟩

theorem numStep_any (st c : Int) (hst : St st) (w : World) : Calls Try.prog 32 #[.int .i64 st, .int .u8 c] w fun e w' => e = .returned (.int .i64 (step st c)) ∧ w' = w := by
  by_cases c0 : c = 45
  · subst c0; exact numStep_minus st hst w
  by_cases c1 : c = 43
  · subst c1; exact numStep_plus st hst w
  by_cases c2 : c = 46
  · subst c2; exact numStep_point st hst w
  by_cases c3 : c = 48
  · subst c3; exact numStep_zero st hst w
  by_cases c4 : c = 101
  · subst c4; exact numStep_e st hst w
  by_cases c5 : c = 69
  · subst c5; exact numStep_E st hst w
  by_cases c6 : 49 ≤ c ∧ c ≤ 57
  · exact numStep_digit st c hst c6.1 c6.2 w
  · exact numStep_other st c hst c0 c1 c2 (by omega) c4 c5 w
end Go.Proofs.Qxb6605386a
