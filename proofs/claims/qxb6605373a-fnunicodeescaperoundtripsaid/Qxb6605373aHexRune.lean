/-
  Seat b6605373a: hexRune (11) and ZZhexRune (8): the positional value of hexadecimal digits, in int32; zzHexValue (7).
-/
import Derived.Test.Qxb6605373aRows
import Derived.Test.Qxb6605373aMath
namespace Go.Proofs.Qxb6605373a
open Go.ChangeShapes Go.WideShapes Go.ChangeAt Go.RowKit

/-- The first n bytes that the slice at 'ao' leads to are those of zs. -/
def Bytes (w : World) (ao : Option Addr) (n : Nat) (zs : List Int) : Prop :=
  ∀ k, k < n → ∃ b off, ao = some ⟨b, off, none⟩ ∧ w.cell? ⟨b, off + k, none⟩ = some (.int .u8 (zs.getD k 0))

theorem take_snoc (zs : List Int) (k : Nat) (h : k < zs.length) : zs.take (k + 1) = zs.take k ++ [zs[k]?.getD 0] := by
  rw [List.take_succ_eq_append_getElem h]
  simp [h]

theorem hexRune_any (ao : Option Addr) (n c : Nat) (zs : List Int) (w : World) (hn : n ≤ 1048576) (hl : n ≤ zs.length) (hB : Bytes w ao n zs)
    (hz : ∀ k, k < n → isHx (zs[k]?.getD 0) = true) :
    Calls Try.prog 11 #[.slice ao n c] w fun e w' => e = .returned (.int .i32 (wrap32 (val (zs.take n)))) ∧ w' = w := by
  go_enter Try.func11, Try.ntmps11
  go_wp2
  go_loop [3, 8] (fun r i => ∃ k : Nat, k ≤ n ∧ i = .int .i64 k ∧ ∃ x : Int, r = .int .i32 x ∧ Hid (x = wrap32 (val (zs.take k)))) (fun _ i => n - (intOf i).toNat)
  case atStart => exact ⟨0, Nat.zero_le _, rfl, 0, rfl, (by show (0 : Int) = wrap32 (val []); unfold wrap32 val; rfl)⟩
  case round =>
    obtain ⟨k, hk, rfl, x, rfl, HX⟩ := hrel
    by_cases hlt : k < n
    · obtain ⟨b, off, rfl, hc⟩ := hB k hlt
      have hz1 := hz k hlt
      have HT : Hid (zs.take (k + 1) = zs.take k ++ [zs[k]?.getD 0]) := take_snoc zs k (by omega)
      have HD : Hid (0 ≤ hx (zs[k]?.getD 0) ∧ hx (zs[k]?.getD 0) ≤ 15) := hx_bd hz1
      rw [isHx_iff] at hz1
      clear hB hz
      rcases hz1 with ⟨z1, z2⟩ | ⟨z1, z2⟩ | ⟨z1, z2⟩
      · have HE : Hid (hx (zs[k]?.getD 0) = zs[k]?.getD 0 - 48) := by show _ = _; unfold hx; rw [if_pos z2]
        go_wp2
        go_round
        case rel => exact ⟨k + 1, by omega, by go_num, _, rfl, (by show _ = _; rw [HT.out, val_snoc, HX.out, ← HE.out]; exact step_i32 _ _ HD.out.1 HD.out.2)⟩
        case measure => simp [intOf]; omega
      · have HE : Hid (hx (zs[k]?.getD 0) = zs[k]?.getD 0 - 55) := by show _ = _; unfold hx; rw [if_neg (by omega), if_pos z2]
        go_wp2
        go_round
        case rel => exact ⟨k + 1, by omega, by go_num, _, rfl, (by show _ = _; rw [HT.out, val_snoc, HX.out, ← HE.out]; exact step_i32 _ _ HD.out.1 HD.out.2)⟩
        case measure => simp [intOf]; omega
      · have HE : Hid (hx (zs[k]?.getD 0) = zs[k]?.getD 0 - 87) := by show _ = _; unfold hx; rw [if_neg (by omega), if_neg (by omega)]
        go_wp2
        go_round
        case rel => exact ⟨k + 1, by omega, by go_num, _, rfl, (by show _ = _; rw [HT.out, val_snoc, HX.out, ← HE.out]; exact step_i32 _ _ HD.out.1 HD.out.2)⟩
        case measure => simp [intOf]; omega
    · obtain rfl : k = n := by omega
      go_wp2
      go_ret
      exact ⟨by show Ending.returned (.int .i32 x) = _; rw [HX.out], rfl⟩

theorem zzHexRune_any (ao : Option Addr) (n c : Nat) (zs : List Int) (w : World) (hn : n ≤ 1048576) (hl : n ≤ zs.length) (hB : Bytes w ao n zs)
    (hz : ∀ k, k < n → isHx (zs[k]?.getD 0) = true) :
    Calls Try.prog 8 #[.slice ao n c] w fun e w' => e = .returned (.int .i32 (wrap32 (val (zs.take n)))) ∧ w' = w := by
  go_enter Try.func8, Try.ntmps8
  go_wp2_with (go_at_call 11; refine (hexRune_any _ _ _ zs _ hn hl hB hz).mono ?_; rintro e w' ⟨rfl, rfl⟩)
  go_ret
  exact ⟨rfl, rfl⟩

theorem lowAt (k : Nat) (h : k < 16) : ∃ m : Nat, (({ data := #[48, 49, 50, 51, 52, 53, 54, 55, 56, 57, 97, 98, 99, 100, 101, 102] } : ByteArray)[k]'h).toNat = m ∧ (k < 10 ∧ m = 48 + k ∨ 10 ≤ k ∧ m = 87 + k) := by
  have : k = 0 ∨ k = 1 ∨ k = 2 ∨ k = 3 ∨ k = 4 ∨ k = 5 ∨ k = 6 ∨ k = 7 ∨ k = 8 ∨ k = 9 ∨ k = 10 ∨ k = 11 ∨ k = 12 ∨ k = 13 ∨ k = 14 ∨ k = 15 := by omega
  rcases this with rfl | rfl | rfl | rfl | rfl | rfl | rfl | rfl | rfl | rfl | rfl | rfl | rfl | rfl | rfl | rfl
  all_goals exact ⟨_, rfl, by first | exact Or.inl ⟨by decide, rfl⟩ | exact Or.inr ⟨by decide, rfl⟩⟩
theorem upAt (k : Nat) (h : k < 16) : ∃ m : Nat, (({ data := #[48, 49, 50, 51, 52, 53, 54, 55, 56, 57, 65, 66, 67, 68, 69, 70] } : ByteArray)[k]'h).toNat = m ∧ (k < 10 ∧ m = 48 + k ∨ 10 ≤ k ∧ m = 55 + k) := by
  have : k = 0 ∨ k = 1 ∨ k = 2 ∨ k = 3 ∨ k = 4 ∨ k = 5 ∨ k = 6 ∨ k = 7 ∨ k = 8 ∨ k = 9 ∨ k = 10 ∨ k = 11 ∨ k = 12 ∨ k = 13 ∨ k = 14 ∨ k = 15 := by omega
  rcases this with rfl | rfl | rfl | rfl | rfl | rfl | rfl | rfl | rfl | rfl | rfl | rfl | rfl | rfl | rfl | rfl
  all_goals exact ⟨_, rfl, by first | exact Or.inl ⟨by decide, rfl⟩ | exact Or.inr ⟨by decide, rfl⟩⟩

theorem hexValue_no (c : Int) (w : World) (h : isHx c = false) :
    Calls Try.prog 7 #[.int .u8 c] w fun e w' => e = .returned (.tuple #[.int .u32 0, .bool false]) ∧ w' = w := by
  rw [isHx_no] at h
  go_enter Try.func7, Try.ntmps7
  go_wp2
  go_loop [4] (fun i => ∃ k : Nat, k ≤ 16 ∧ i = .int .i64 k) (fun i => 16 - (intOf i).toNat)
  case atStart => exact ⟨0, Nat.zero_le _, rfl⟩
  case round =>
    obtain ⟨k, hk, rfl⟩ := hrel
    by_cases hlt : k < 16
    · obtain ⟨m1, e1, b1⟩ := lowAt k hlt
      obtain ⟨m2, e2, b2⟩ := upAt k hlt
      have g1 : ((m1 : Int) == c) = false := by rw [beq_eq_false_iff_ne]; omega
      have g2 : ((m2 : Int) == c) = false := by rw [beq_eq_false_iff_ne]; omega
      clear h b1 b2
      go_wp2
      go_round
      case rel => exact ⟨k + 1, by omega, by go_num⟩
      case measure => simp [intOf]; omega
    · go_wp2
      go_ret2
      exact ⟨rfl, rfl⟩

theorem hexValue_yes (c : Int) (w : World) (h : isHx c = true) :
    Calls Try.prog 7 #[.int .u8 c] w fun e w' => e = .returned (.tuple #[.int .u32 (hx c), .bool true]) ∧ w' = w := by
  have HD := hx_bd h
  have HV : Hid (hx c + 48 = c ∧ hx c < 10 ∨ hx c + 55 = c ∧ 10 ≤ hx c ∨ hx c + 87 = c ∧ 10 ≤ hx c) := by
    show _ ∨ _
    rw [isHx_iff] at h
    unfold hx
    split
    · omega
    · split <;> omega
  clear h
  obtain ⟨v, hv⟩ : ∃ v : Nat, (v : Int) = hx c := ⟨(hx c).toNat, by omega⟩
  rw [← hv] at HD HV ⊢
  clear hv
  go_enter Try.func7, Try.ntmps7
  go_wp2
  go_loop [4] (fun i => ∃ k : Nat, k ≤ v ∧ i = .int .i64 k) (fun i => 16 - (intOf i).toNat)
  case atStart => exact ⟨0, Nat.zero_le _, rfl⟩
  case round =>
    obtain ⟨k, hk, rfl⟩ := hrel
    have hlt : k < 16 := by omega
    obtain ⟨m1, e1, b1⟩ := lowAt k hlt
    obtain ⟨m2, e2, b2⟩ := upAt k hlt
    by_cases hkv : k < v
    · have g1 : ((m1 : Int) == c) = false := by rw [beq_eq_false_iff_ne]; have := HV.out; omega
      have g2 : ((m2 : Int) == c) = false := by rw [beq_eq_false_iff_ne]; have := HV.out; omega
      clear b1 b2 HV
      go_wp2
      go_round
      case rel => exact ⟨k + 1, by omega, by go_num⟩
      case measure => simp [intOf]; omega
    · obtain rfl : k = v := by omega
      by_cases hm : (m1 : Int) = c
      · have g1 : ((m1 : Int) == c) = true := by simpa using hm
        clear hm b1 b2 HV
        go_wp2
        go_ret2
        exact ⟨rfl, rfl⟩
      · have g1 : ((m1 : Int) == c) = false := by simpa using hm
        have g2 : ((m2 : Int) == c) = true := by rw [beq_iff_eq]; have := HV.out; omega
        clear hm b1 b2 HV
        go_wp2
        go_ret2
        exact ⟨rfl, rfl⟩
end Go.Proofs.Qxb6605373a
