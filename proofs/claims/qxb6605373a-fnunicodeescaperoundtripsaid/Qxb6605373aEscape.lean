/-
  Seat b6605373a: isHex (13), escapeLength (12), ZZescapeLength (10).
-/
import Derived.Test.Qxb6605373aCopy
namespace Go.Proofs.Qxb6605373a
open Go.ChangeShapes Go.WideShapes Go.ChangeAt Go.RowKit

theorem isHex_yes (ao : Option Addr) (n c : Nat) (zs : List Int) (w : World) (hn : n ≤ 1048576) (hB : Bytes w ao n zs) (hz : ∀ k, k < n → isHx (zs[k]?.getD 0) = true) :
    Calls Try.prog 13 #[.slice ao n c] w fun e w' => e = .returned (.bool true) ∧ w' = w := by
  go_enter Try.func13, Try.ntmps13
  go_wp2
  go_loop [7] (fun i => ∃ k : Nat, k ≤ n ∧ i = .int .i64 k) (fun i => n - (intOf i).toNat)
  case atStart => exact ⟨0, Nat.zero_le _, rfl⟩
  case round =>
    obtain ⟨k, hk, rfl⟩ := hrel
    by_cases hlt : k < n
    · obtain ⟨b, off, rfl, hc⟩ := hB k hlt
      have hz1 := hz k hlt
      rw [isHx_iff] at hz1
      clear hB hz
      rcases hz1 with ⟨z1, z2⟩ | ⟨z1, z2⟩ | ⟨z1, z2⟩
      all_goals
        go_wp2
        go_round
        case rel => exact ⟨k + 1, by omega, by go_num⟩
        case measure => simp [intOf]; omega
    · go_wp2
      go_ret
      exact ⟨rfl, rfl⟩

theorem bytes_cut {w : World} {b off N : Nat} {zs : List Int} (h : Bytes w (some ⟨b, off, none⟩) N zs) (i n : Nat) (hi : i + n ≤ N) : Bytes w (some ⟨b, off + i, none⟩) n (zs.drop i) := by
  intro k hk
  obtain ⟨b', off', e, hc⟩ := h (i + k) (by omega)
  simp only [Option.some.injEq, Addr.mk.injEq, and_true] at e
  obtain ⟨rfl, rfl⟩ := e
  refine ⟨b, off + i, rfl, ?_⟩
  rw [Nat.add_assoc, hc]
  simp

theorem escapeLength_six (b off N c : Nat) (zs : List Int) (w : World) (hN : 6 ≤ N) (hNc : N ≤ c) (hc : c ≤ 2000000) (hB : Bytes w (some ⟨b, off, none⟩) N zs) (h1 : zs[1]?.getD 0 = 117)
    (hz : ∀ k, k < 4 → isHx ((zs.drop 2)[k]?.getD 0) = true) :
    Calls Try.prog 12 #[.slice (some ⟨b, off, none⟩) N c] w fun e w' => e = .returned (.int .i64 6) ∧ w' = w := by
  have hB2 := bytes_cut hB 2 4 (by omega)
  have hc1 : w.cell? ⟨b, off + 1, none⟩ = some (.int .u8 117) := by
    obtain ⟨b', off', e, hcc⟩ := hB 1 (by omega)
    simp only [Option.some.injEq, Addr.mk.injEq, and_true] at e
    obtain ⟨rfl, rfl⟩ := e
    rw [hcc, List.getD_eq_getElem?_getD, h1]
  clear hB h1
  go_enter Try.func12, Try.ntmps12
  go_wp2_with (go_at_call 13; refine (isHex_yes _ _ _ (zs.drop 2) _ (by omega) hB2 hz).mono ?_; rintro e w' ⟨rfl, rfl⟩)
  go_ret
  exact ⟨rfl, rfl⟩

theorem zzEscapeLength_six (b off N c : Nat) (zs : List Int) (w : World) (hN : 6 ≤ N) (hNc : N ≤ c) (hc : c ≤ 2000000) (hB : Bytes w (some ⟨b, off, none⟩) N zs) (h1 : zs[1]?.getD 0 = 117)
    (hz : ∀ k, k < 4 → isHx ((zs.drop 2)[k]?.getD 0) = true) :
    Calls Try.prog 10 #[.slice (some ⟨b, off, none⟩) N c] w fun e w' => e = .returned (.int .i64 6) ∧ w' = w := by
  have H1 : Hid (zs[1]?.getD 0 = 117) := h1
  clear h1
  go_enter Try.func10, Try.ntmps10
  go_wp2_with (go_at_call 12; refine (escapeLength_six _ _ _ _ zs _ hN hNc hc hB H1.out hz).mono ?_; rintro e w' ⟨rfl, rfl⟩)
  go_ret
  exact ⟨rfl, rfl⟩
end Go.Proofs.Qxb6605373a
