/-
  Seat b6605373a: FnHexRuneLastEightDigits (3).
-/
import Derived.Test.Qxb6605373aCopy
namespace Go.Proofs.Qxb6605373a
open Go.ChangeShapes Go.WideShapes Go.ChangeAt Go.RowKit

theorem bound_yes (ao : Option Addr) (n c : Nat) (w : World) (h : n ≤ 1048576) :
    Calls Try.prog 5 #[.slice ao n c] w fun e w' => e = .returned (.bool true) ∧ w' = w := by
  go_enter Try.func5, Try.ntmps5
  go_wp2
  go_ret
  exact ⟨rfl, rfl⟩
theorem bound_no (ao : Option Addr) (n c : Nat) (w : World) (h : 1048576 < n) :
    Calls Try.prog 5 #[.slice ao n c] w fun e w' => e = .returned (.bool false) ∧ w' = w := by
  go_enter Try.func5, Try.ntmps5
  go_wp2
  go_ret
  exact ⟨rfl, rfl⟩

theorem ret_bool {b : Bool} (h : b = true) : Ending.returned (.bool b) = .returned (.bool true) := by rw [h]

theorem law1_long (ao : Option Addr) (n c : Nat) (w : World) (h : 1048576 < n) :
    Calls Try.prog 3 #[.slice ao n c] w fun e w' => e = .returned (.bool true) ∧ Below w.heap.size w w' := by
  go_enter Try.func3, Try.ntmps3
  go_wp2_with (go_at_call 5; refine (bound_no _ _ _ _ h).mono ?_; rintro e w' ⟨rfl, rfl⟩)
  go_ret
  exact ⟨rfl, Below.refl _ _⟩

theorem law1_short (ao : Option Addr) (n c : Nat) (zs : List Int) (w : World) (hn : n ≤ 1048576) (hl : n ≤ zs.length) (hnil : ao = none → n = 0 ∧ c = 0) (hB : Bytes w ao n zs) :
    Calls Try.prog 3 #[.slice ao n c] w fun e w' => e = .returned (.bool true) ∧ Below w.heap.size w w' := by
  go_enter Try.func3, Try.ntmps3
  go_wp2_with (first | (go_at_call 5; refine (bound_yes _ _ _ _ hn).mono ?_; rintro e w' ⟨rfl, rfl⟩) | (go_at_call 6; refine (copy_any _ _ _ zs _ hn hl hnil hB).mono ?_; rintro e w1 ⟨ao1, c1, rfl, hB1, hb⟩; clear hnil hB))
  go_loop [3] (fun i => ∃ k : Nat, k ≤ n ∧ i = .int .i64 k ∧ Hid (∀ j, j < k → isHx (zs[j]?.getD 0) = true)) (fun i => n - (intOf i).toNat)
  case atStart => exact ⟨0, Nat.zero_le _, rfl, fun j hj => absurd hj (by omega)⟩
  case round =>
    obtain ⟨k, hk, rfl, HH⟩ := hrel
    by_cases hlt : k < n
    · obtain ⟨b, off, rfl, hc⟩ := hB1 k hlt
      cases hx : isHx (zs[k]?.getD 0) with
      | false =>
        go_wp2_with (go_at_call 7; refine (hexValue_no _ _ hx).mono ?_; rintro e w' ⟨rfl, rfl⟩)
        go_ret
        exact ⟨rfl, hb⟩
      | true =>
        go_wp2_with (go_at_call 7; refine (hexValue_yes _ _ hx).mono ?_; rintro e w' ⟨rfl, rfl⟩)
        go_round
        case rel =>
          refine ⟨k + 1, by omega, by go_num, fun j hj => ?_⟩
          by_cases e : j = k
          · rw [e]; exact hx
          · exact HH.out j (by omega)
        case measure => simp [intOf]; omega
    · obtain rfl : k = n := by omega
      go_wp2
      go_loop [7, 8] (fun r i => ∃ m : Nat, m ≤ k ∧ m ≤ 8 ∧ i = .int .i64 m ∧ ∃ x : Int, r = .int .u32 x ∧ 0 ≤ x ∧ x ≤ 4294967295 ∧ Hid (x = val ((zs.take k).drop (k - m)))) (fun _ i => 8 - (intOf i).toNat)
      case atStart => exact ⟨0, Nat.zero_le _, by omega, rfl, 0, rfl, by omega, by omega, (by show _ = _; rw [Nat.sub_zero, List.drop_of_length_le (by simp; omega)]; rfl)⟩
      case round =>
        obtain ⟨m, hm, hm8, rfl, x, rfl, hx0, hx1, HX⟩ := hrel
        by_cases hlt2 : m < 8 ∧ m < k
        · obtain ⟨l1, l2⟩ := hlt2
          obtain ⟨b, off, rfl, hc⟩ := hB1 (k - 1 - m) (by omega)
          have hxx := HH.out (k - 1 - m) (by omega)
          have hc1 : w1.cell? ⟨b, off + (k - 1 - m), none⟩ = some (.int .u8 (zs[k - 1 - m]?.getD 0)) := by rw [hc]; simp
          have hd := hx_bd hxx
          have ei : ((k : Int) - 1 - (m : Int)).toNat = k - 1 - m := by omega
          clear hB1 hc
          go_wp2_with (go_at_call 7; refine (hexValue_yes _ _ hxx).mono ?_; rintro e w' ⟨rfl, rfl⟩)
          have R := step_u32 zs k m x l1 l2 hl HH.out HX.out
          go_round
          case rel => exact ⟨m + 1, by omega, by omega, by go_num, _, rfl, by rw [R.1]; exact R.2.1, by rw [R.1]; exact R.2.2, R.1⟩
          case measure => simp [intOf]; omega
        · have l3 : m = 8 ∨ m = k := by omega
          by_cases l1 : m < 8
          · obtain rfl : m = k := by omega
            go_wp2_with (go_at_call 8; refine (zzHexRune_any _ _ _ zs _ hn hl hB1 HH.out).mono ?_; rintro e w' ⟨rfl, rfl⟩)
            go_ret
            exact ⟨ret_bool (by rw [HX.out]; simp), hb⟩
          · obtain rfl : m = 8 := by omega
            go_wp2_with (go_at_call 8; refine (zzHexRune_any _ _ _ zs _ hn hl hB1 HH.out).mono ?_; rintro e w' ⟨rfl, rfl⟩)
            go_ret
            exact ⟨ret_bool (by rw [HX.out, last8 zs k hl (by omega)]; simp), hb⟩
end Go.Proofs.Qxb6605373a
