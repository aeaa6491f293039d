/-
  Seat b6605386a: jsb1NumModel (11): it computes mrun from the start state.
-/
import Derived.Test.Qxb6605386aModel
namespace Go.Proofs.Qxb6605386a
open Go.ChangeShapes Go.WideShapes Go.ChangeAt Go.RowKit

/-- The first n bytes that the slice at 'ao' leads to are those of zs. -/
def Bytes (w : World) (ao : Option Addr) (n : Nat) (zs : List Int) : Prop :=
  ∀ k, k < n → ∃ b off, ao = some ⟨b, off, none⟩ ∧ w.cell? ⟨b, off + k, none⟩ = some (.int .u8 (zs.getD k 0))

theorem numModel_any (ao : Option Addr) (n c i : Nat) (zs : List Int) (w : World) (hn : n ≤ 2000000) (hl : zs.length = n) (hi : i ≤ n) (hB : Bytes w ao n zs) :
    Calls Try.prog 11 #[.slice ao n c, .int .i64 i] w fun e w' => e = .returned (.int .i64 (mrun (zs.drop i) 0 i)) ∧ w' = w := by
  have HL : Hid (zs.length = n) := hl
  clear hl
  go_enter Try.func11, Try.ntmps11
  go_wp2
  go_loop [5, 6] (fun st j => ∃ s : Int, ∃ k : Nat, k ≤ n ∧ j = .int .i64 k ∧ st = .int .i64 s ∧ 0 ≤ s ∧ s ≤ 8 ∧ Hid (mrun (zs.drop i) 0 i = mrun (zs.drop k) s k)) (fun _ j => n - (intOf j).toNat)
  case atStart => exact ⟨0, i, hi, rfl, rfl, by decide, by decide, rfl⟩
  case round =>
    obtain ⟨s, k, hk, rfl, rfl, s0, s8, HM⟩ := hrel
    have hst : Hid (St s) := by show St s; unfold St; omega
    by_cases hlt : k < n
    · obtain ⟨b, off, rfl, hc⟩ := hB k hlt
      have hc1 : w.cell? ⟨b, off + k, none⟩ = some (.int .u8 (zs[k]?.getD 0)) := by rw [hc]; simp
      have HD : Hid (zs.drop k = zs[k]?.getD 0 :: zs.drop (k + 1)) := drop_at zs k (by rw [HL.out]; exact hlt)
      by_cases hs : step s (zs[k]?.getD 0) = -1
      · have HE : Hid (mrun (zs.drop i) 0 i = ends s k) := by show _ = _; rw [HM.out, HD.out]; show (if _ then _ else _) = _; rw [if_pos hs]
        have hs' : (step s (zs[k]?.getD 0) == -1) = true := by rw [hs]; rfl
        clear hs hB hc HM
        cases ha : acc s with
        | true =>
          go_wp2_with (first | (go_at_call 32; refine (numStep_any _ _ hst.out _).mono ?_; rintro e w' ⟨rfl, rfl⟩) | (go_at_call 33; refine (numAccepts_any _ _ s0 s8).mono ?_; rintro e w' ⟨rfl, rfl⟩))
          go_ret
          exact ⟨ret_int (by rw [HE.out]; simp [ends, ha]), rfl⟩
        | false =>
          go_wp2_with (first | (go_at_call 32; refine (numStep_any _ _ hst.out _).mono ?_; rintro e w' ⟨rfl, rfl⟩) | (go_at_call 33; refine (numAccepts_any _ _ s0 s8).mono ?_; rintro e w' ⟨rfl, rfl⟩))
          go_ret
          exact ⟨ret_int (by rw [HE.out]; simp [ends, ha]), rfl⟩
      · have HE : Hid (mrun (zs.drop i) 0 i = mrun (zs.drop (k + 1)) (step s (zs[k]?.getD 0)) (k + 1)) := by show _ = _; rw [HM.out, HD.out]; show (if _ then _ else _) = _; rw [if_neg hs]
        have hs' : (step s (zs[k]?.getD 0) == -1) = false := by rw [beq_eq_false_iff_ne]; exact hs
        have HR : Hid (0 ≤ step s (zs[k]?.getD 0) ∧ step s (zs[k]?.getD 0) ≤ 8) := step_range _ _ hs
        clear hs hB hc HM
        go_wp2_with (go_at_call 32; refine (numStep_any _ _ hst.out _).mono ?_; rintro e w' ⟨rfl, rfl⟩)
        go_round
        case rel => exact ⟨_, k + 1, by omega, by go_num, rfl, HR.out.1, HR.out.2, HE⟩
        case measure => simp [intOf]; omega
    · obtain rfl : k = n := by omega
      have HE : Hid (mrun (zs.drop i) 0 i = ends s k) := by show _ = _; rw [HM.out, drop_end zs k (by rw [HL.out]; exact Nat.le_refl _)]; rfl
      clear hB HM
      cases ha : acc s with
      | true =>
        go_wp2_with (go_at_call 33; refine (numAccepts_any _ _ s0 s8).mono ?_; rintro e w' ⟨rfl, rfl⟩)
        go_ret
        exact ⟨ret_int (by rw [HE.out]; simp [ends, ha]), rfl⟩
      | false =>
        go_wp2_with (go_at_call 33; refine (numAccepts_any _ _ s0 s8).mono ?_; rintro e w' ⟨rfl, rfl⟩)
        go_ret
        exact ⟨ret_int (by rw [HE.out]; simp [ends, ha]), rfl⟩
end Go.Proofs.Qxb6605386a
