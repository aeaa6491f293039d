/-
  Seat b6605386a: isDigit (39), digitsEnd (40), validNumber (31), ZZValidNumber (10).
-/
import Derived.Test.Qxb6605386aModelRun
import Derived.Deep.DeepCutAuto
namespace Go.Proofs.Qxb6605386a
open Go.ChangeShapes Go.WideShapes Go.ChangeAt Go.RowKit

theorem isDigit_any (c : Int) (w : World) : Calls Try.prog 39 #[.int .u8 c] w fun e w' => e = .returned (.bool (dig c)) ∧ w' = w := by
  by_cases h : 48 ≤ c
  · by_cases h' : c ≤ 57
    · have H : Hid (dig c = true) := (dig_iff c).2 ⟨h, h'⟩
      go_enter Try.func39, Try.ntmps39
      go_wp2
      go_ret
      exact ⟨ret_bool' (by rw [H.out]), rfl⟩
    · have H : Hid (dig c = false) := (dig_no c).2 (by omega)
      go_enter Try.func39, Try.ntmps39
      go_wp2
      go_ret
      exact ⟨ret_bool' (by rw [H.out]), rfl⟩
  · have H : Hid (dig c = false) := (dig_no c).2 (by omega)
    go_enter Try.func39, Try.ntmps39
    go_wp2
    go_ret
    exact ⟨ret_bool' (by rw [H.out]), rfl⟩

theorem digitsEnd_any (ao : Option Addr) (n c i : Nat) (zs : List Int) (w : World) (hn : n ≤ 2000000) (hl : zs.length = n) (hi : i ≤ n) (hB : Bytes w ao n zs) :
    Calls Try.prog 40 #[.slice ao n c, .int .i64 i] w fun e w' => ∃ q : Nat, e = .returned (.int .i64 q) ∧ q ≤ n ∧ Hid (∀ f, afterD f (zs.drop i) i = f (zs.drop q) q) ∧ w' = w := by
  have HL : Hid (zs.length = n) := hl
  clear hl
  go_enter Try.func40, Try.ntmps40
  go_wp2
  go_loop [1] (fun j => ∃ k : Nat, k ≤ n ∧ j = .int .i64 k ∧ Hid (∀ f, afterD f (zs.drop i) i = afterD f (zs.drop k) k)) (fun j => n - (intOf j).toNat)
  case atStart => exact ⟨i, hi, rfl, fun _ => rfl⟩
  case round =>
    obtain ⟨k, hk, rfl, HM⟩ := hrel
    by_cases hlt : k < n
    · obtain ⟨b, off, rfl, hc⟩ := hB k hlt
      have hc1 : w.cell? ⟨b, off + k, none⟩ = some (.int .u8 (zs[k]?.getD 0)) := by rw [hc]; simp
      have HD : Hid (zs.drop k = zs[k]?.getD 0 :: zs.drop (k + 1)) := drop_at zs k (by rw [HL.out]; exact hlt)
      cases hd : dig (zs[k]?.getD 0) with
      | true =>
        have HE : Hid (∀ f, afterD f (zs.drop i) i = afterD f (zs.drop (k + 1)) (k + 1)) := by
          intro f; rw [HM.out f, HD.out]; show (if _ then _ else _) = _; rw [if_pos hd]
        clear hB hc HM
        go_wp2_with (go_at_call 39; refine (isDigit_any _ _).mono ?_; rintro e w' ⟨rfl, rfl⟩)
        go_round
        case rel => exact ⟨k + 1, by omega, by go_num, HE⟩
        case measure => simp [intOf]; omega
      | false =>
        have HE : Hid (∀ f, afterD f (zs.drop i) i = f (zs.drop k) k) := by
          intro f; rw [HM.out f, HD.out]; show (if _ then _ else _) = _; rw [if_neg (by rw [hd]; decide)]
        clear hB hc HM
        go_wp2_with (go_at_call 39; refine (isDigit_any _ _).mono ?_; rintro e w' ⟨rfl, rfl⟩)
        go_ret
        exact ⟨k, rfl, hk, HE, rfl⟩
    · obtain rfl : k = n := by omega
      have HE : Hid (∀ f, afterD f (zs.drop i) i = f (zs.drop k) k) := by
        intro f; rw [HM.out f, drop_end zs k (by rw [HL.out]; exact Nat.le_refl _)]; rfl
      clear hB HM
      go_wp2
      go_ret
      exact ⟨k, rfl, hk, HE, rfl⟩

theorem digitsEnd_at (ao : Option Addr) (n c : Nat) (x : Int) (k : Nat) (hx : x = (k : Int)) (zs : List Int) (w : World) (hn : n ≤ 2000000) (hl : zs.length = n) (hi : k ≤ n) (hB : Bytes w ao n zs) :
    Calls Try.prog 40 #[.slice ao n c, .int .i64 x] w fun e w' => ∃ q : Nat, e = .returned (.int .i64 q) ∧ q ≤ n ∧ Hid (∀ f, afterD f (zs.drop k) k = f (zs.drop q) q) ∧ w' = w := by
  subst hx
  exact digitsEnd_any ao n c k zs w hn hl hi hB

/-- A byte of the slice, and what is left from its place on. -/
theorem at_place {b off n : Nat} {zs : List Int} {w : World} (hl : zs.length = n) (hB : Bytes w (some ⟨b, off, none⟩) n zs) (k : Nat) (hk : k < n) :
    w.cell? ⟨b, off + k, none⟩ = some (.int .u8 (zs[k]?.getD 0)) ∧ Hid (zs.drop k = zs[k]?.getD 0 :: zs.drop (k + 1)) := by
  obtain ⟨b', off', e, hc⟩ := hB k hk
  simp only [Option.some.injEq, Addr.mk.injEq, and_true] at e
  obtain ⟨rfl, rfl⟩ := e
  exact ⟨by rw [hc]; simp, drop_at zs k (by omega)⟩

set_option maxHeartbeats 4000000 in
set_option maxRecDepth 100000 in
theorem validNumber_any (b off n c i : Nat) (zs : List Int) (w : World) (hn : n ≤ 2000000) (hl : zs.length = n) (hi : i < n) (hB : Bytes w (some ⟨b, off, none⟩) n zs) :
    Calls Try.prog 31 #[.slice (some ⟨b, off, none⟩) n c, .int .i64 i] w fun e w' => e = .returned (.int .i64 (v0 (zs.drop i) i)) ∧ w' = w := by
  have HL : Hid (zs.length = n) := hl
  clear hl
  obtain ⟨hc0, HD⟩ := at_place HL.out hB i hi
  go_enter Try.func31, Try.ntmps31
  go_upto_if 9 with fail
  go_cut [1] from 5 (fun s1 wx => ∃ p : Nat, p ≤ n ∧ s1 = .int .i64 p ∧ Hid (v0 (zs.drop i) i = v1 (zs.drop p) p) ∧ wx = w)
  case first =>
    by_cases hm : zs[i]?.getD 0 = 45
    · have g : (zs[i]?.getD 0 == 45) = true := by rw [hm]; rfl
      have HE : Hid (v0 (zs.drop i) i = v1 (zs.drop (i + 1)) (i + 1)) := by show _ = _; rw [HD.out]; show (if _ then _ else _) = _; rw [if_pos hm]
      clear hm hB
      go_wp2
      go_meet
      exact ⟨i + 1, by omega, by go_num, HE, rfl⟩
    · have g : (zs[i]?.getD 0 == 45) = false := by rw [beq_eq_false_iff_ne]; exact hm
      have HE : Hid (v0 (zs.drop i) i = v1 (zs.drop i) i) := by show _ = _; rw [HD.out]; show (if _ then _ else _) = _; rw [if_neg hm]
      clear hm hB
      go_wp2
      go_meet
      exact ⟨i, by omega, by go_num, HE, rfl⟩
  case rest =>
    clear hc0 HD
    obtain ⟨p, hp, rfl, HV, rfl⟩ := hcut
    go_step
    go_step
    go_cut [1] from 5 (fun s1 wx => ∃ p : Nat, p ≤ n ∧ s1 = .int .i64 p ∧ Hid (v0 (zs.drop i) i = v2 (zs.drop p) p) ∧ wx = wc)
    case first =>
      by_cases hlt : p < n
      · obtain ⟨hc, HD⟩ := at_place HL.out hB p hlt
        by_cases hm : zs[p]?.getD 0 = 48
        · have g : (zs[p]?.getD 0 == 48) = true := by rw [hm]; rfl
          have HE : Hid (v0 (zs.drop i) i = v2 (zs.drop (p + 1)) (p + 1)) := by show _ = _; rw [HV.out, HD.out]; show (if _ then _ else _) = _; rw [if_pos hm]
          clear hm hB HV HD
          go_wp2
          go_meet
          exact ⟨p + 1, by omega, by go_num, HE, rfl⟩
        · have g : (zs[p]?.getD 0 == 48) = false := by rw [beq_eq_false_iff_ne]; exact hm
          cases hd : dig (zs[p]?.getD 0) with
          | true =>
            have HE : Hid (v0 (zs.drop i) i = afterD v2 (zs.drop p) p) := by show _ = _; rw [HV.out, HD.out]; show (if _ then _ else if _ then _ else _) = _; rw [if_neg hm, if_pos hd]
            clear hm HV HD
            go_wp2_with (first
              | (go_at_call 39; refine (isDigit_any _ _).mono ?_; rintro e w' ⟨rfl, rfl⟩)
              | (go_at_call 40; refine (digitsEnd_at _ _ _ _ p rfl zs _ hn HL.out hp hB).mono ?_; rintro e w' ⟨q, rfl, hq, HQ, rfl⟩))
            go_meet
            exact ⟨q, hq, rfl, by show _ = _; rw [HE.out, HQ.out], rfl⟩
          | false =>
            have HE : Hid (v0 (zs.drop i) i = -1) := by show _ = _; rw [HV.out, HD.out]; show (if _ then _ else if _ then _ else _) = _; rw [if_neg hm, if_neg (by rw [hd]; decide)]
            clear hm HV HD hB
            go_wp2_with (go_at_call 39; refine (isDigit_any _ _).mono ?_; rintro e w' ⟨rfl, rfl⟩)
            go_ret
            exact ⟨ret_int HE.out.symm, rfl⟩
      · have HE : Hid (v0 (zs.drop i) i = -1) := by show _ = _; rw [HV.out, drop_end zs p (by rw [HL.out]; omega)]; rfl
        have hpn : n ≤ p := by omega
        clear hB HV
        go_wp2
        go_ret
        exact ⟨ret_int HE.out.symm, rfl⟩
    case rest =>
      clear HV hp
      obtain ⟨p, hp, rfl, HV, rfl⟩ := hcut
      go_step
      go_step
      go_cut [1] from 5 (fun s1 wx => ∃ p : Nat, p ≤ n ∧ s1 = .int .i64 p ∧ Hid (v0 (zs.drop i) i = v3 (zs.drop p) p) ∧ wx = wc)
      case first =>
        by_cases hlt : p < n
        · obtain ⟨hc, HD⟩ := at_place HL.out hB p hlt
          by_cases hm : zs[p]?.getD 0 = 46
          · have g : (zs[p]?.getD 0 == 46) = true := by rw [hm]; rfl
            have HE : Hid (v0 (zs.drop i) i = v2d (zs.drop (p + 1)) (p + 1)) := by show _ = _; rw [HV.out, HD.out]; show (if _ then _ else _) = _; rw [if_pos hm]
            clear hm HV HD
            by_cases hlt1 : p + 1 < n
            · obtain ⟨hc1, HD1⟩ := at_place HL.out hB (p + 1) hlt1
              cases hd : dig (zs[p + 1]?.getD 0) with
              | true =>
                have HF : Hid (v0 (zs.drop i) i = afterD v3 (zs.drop (p + 1)) (p + 1)) := by show _ = _; rw [HE.out, HD1.out]; show (if _ then _ else _) = _; rw [if_pos hd]
                clear HE HD1
                go_wp2_with (first
                  | (go_at_call 39; refine (isDigit_any _ _).mono ?_; rintro e w' ⟨rfl, rfl⟩)
                  | (go_at_call 40; refine (digitsEnd_at _ _ _ _ (p + 1) (by omega) zs _ hn HL.out (by omega) hB).mono ?_; rintro e w' ⟨q, rfl, hq, HQ, rfl⟩))
                go_meet
                exact ⟨q, hq, rfl, by show _ = _; rw [HF.out, HQ.out], rfl⟩
              | false =>
                have HF : Hid (v0 (zs.drop i) i = -1) := by show _ = _; rw [HE.out, HD1.out]; show (if _ then _ else _) = _; rw [if_neg (by rw [hd]; decide)]
                clear HE HD1 hB
                go_wp2_with (go_at_call 39; refine (isDigit_any _ _).mono ?_; rintro e w' ⟨rfl, rfl⟩)
                go_ret
                exact ⟨ret_int HF.out.symm, rfl⟩
            · have HF : Hid (v0 (zs.drop i) i = -1) := by show _ = _; rw [HE.out, drop_end zs (p + 1) (by rw [HL.out]; omega)]; rfl
              clear HE hB
              go_wp2
              go_ret
              exact ⟨ret_int HF.out.symm, rfl⟩
          · have g : (zs[p]?.getD 0 == 46) = false := by rw [beq_eq_false_iff_ne]; exact hm
            have HE : Hid (v0 (zs.drop i) i = v3 (zs.drop p) p) := by show _ = _; rw [HV.out, HD.out]; show (if _ then _ else _) = _; rw [if_neg hm]
            clear hm HV HD hB
            go_wp2
            go_meet
            exact ⟨p, hp, rfl, HE, rfl⟩
        · have HE : Hid (v0 (zs.drop i) i = v3 (zs.drop p) p) := by show _ = _; rw [HV.out, drop_end zs p (by rw [HL.out]; omega)]; rfl
          clear hB HV
          go_wp2
          go_meet
          exact ⟨p, hp, rfl, HE, rfl⟩
      case rest =>
        clear HV hp
        obtain ⟨p, hp, rfl, HV, rfl⟩ := hcut
        go_step
        go_step
        go_cut [1] from 5 (fun s1 wx => ∃ p : Nat, s1 = .int .i64 p ∧ Hid (v0 (zs.drop i) i = p) ∧ wx = wc)
        case first =>
          by_cases hlt : p < n
          · obtain ⟨hc, HD⟩ := at_place HL.out hB p hlt
            cases hm : isE (zs[p]?.getD 0) with
            | false =>
              have hm' := hm
              unfold isE at hm'
              rw [decide_eq_false_iff_not] at hm'
              have g1 : (zs[p]?.getD 0 == 101) = false := by rw [beq_eq_false_iff_ne]; omega
              have g2 : (zs[p]?.getD 0 == 69) = false := by rw [beq_eq_false_iff_ne]; omega
              have HE : Hid (v0 (zs.drop i) i = p) := by show _ = _; rw [HV.out, HD.out]; show (if _ then _ else _) = _; rw [if_neg (by rw [hm]; decide)]
              clear hm hm' HV HD hB
              go_wp2
              go_meet
              exact ⟨p, rfl, HE, rfl⟩
            | true =>
              have HE : Hid (v0 (zs.drop i) i = v3s (zs.drop (p + 1)) (p + 1)) := by show _ = _; rw [HV.out, HD.out]; show (if _ then _ else _) = _; rw [if_pos hm]
              unfold isE at hm
              rw [decide_eq_true_iff] at hm
              clear HV HD
              have hg : ((zs[p]?.getD 0 == 101) = true ∧ True) ∨ ((zs[p]?.getD 0 == 101) = false ∧ (zs[p]?.getD 0 == 69) = true) := by
                rcases hm with hm | hm
                · exact .inl ⟨by rw [hm]; rfl, trivial⟩
                · exact .inr ⟨by rw [hm]; rfl, by rw [hm]; rfl⟩
              clear hm
              by_cases hlt1 : p + 1 < n
              · obtain ⟨hc1, HD1⟩ := at_place HL.out hB (p + 1) hlt1
                cases hs : sgn (zs[p + 1]?.getD 0) with
                | true =>
                  have HF : Hid (v0 (zs.drop i) i = v3d (zs.drop (p + 1 + 1)) (p + 1 + 1)) := by show _ = _; rw [HE.out, HD1.out]; show (if _ then _ else _) = _; rw [if_pos hs]
                  unfold sgn at hs
                  rw [decide_eq_true_iff] at hs
                  clear HE HD1
                  have hk : ((zs[p + 1]?.getD 0 == 43) = true ∧ True) ∨ ((zs[p + 1]?.getD 0 == 43) = false ∧ (zs[p + 1]?.getD 0 == 45) = true) := by
                    rcases hs with hs | hs
                    · exact .inl ⟨by rw [hs]; rfl, trivial⟩
                    · exact .inr ⟨by rw [hs]; rfl, by rw [hs]; rfl⟩
                  clear hs
                  by_cases hlt2 : p + 1 + 1 < n
                  · obtain ⟨hc2, HD2⟩ := at_place HL.out hB (p + 1 + 1) hlt2
                    cases hd : dig (zs[p + 1 + 1]?.getD 0) with
                    | true =>
                      have HG : Hid (v0 (zs.drop i) i = afterD here (zs.drop (p + 1 + 1)) (p + 1 + 1)) := by show _ = _; rw [HF.out, HD2.out]; show (if _ then _ else _) = _; rw [if_pos hd]
                      clear HF HD2
                      rcases hg with ⟨g1, g2⟩ | ⟨g1, g2⟩ <;> rcases hk with ⟨k1, k2⟩ | ⟨k1, k2⟩
                      all_goals
                        go_wp2_with (first
                          | (go_at_call 39; refine (isDigit_any _ _).mono ?_; rintro e w' ⟨rfl, rfl⟩)
                          | (go_at_call 40; refine (digitsEnd_at _ _ _ _ (p + 1 + 1) (by omega) zs _ hn HL.out (by omega) hB).mono ?_; rintro e w' ⟨q, rfl, hq, HQ, rfl⟩))
                        go_meet
                        exact ⟨q, rfl, by show _ = _; rw [HG.out, HQ.out]; rfl, rfl⟩
                    | false =>
                      have HG : Hid (v0 (zs.drop i) i = -1) := by show _ = _; rw [HF.out, HD2.out]; show (if _ then _ else _) = _; rw [if_neg (by rw [hd]; decide)]
                      clear HF HD2 hB
                      rcases hg with ⟨g1, g2⟩ | ⟨g1, g2⟩ <;> rcases hk with ⟨k1, k2⟩ | ⟨k1, k2⟩
                      all_goals
                        go_wp2_with (go_at_call 39; refine (isDigit_any _ _).mono ?_; rintro e w' ⟨rfl, rfl⟩)
                        go_ret
                        exact ⟨ret_int HG.out.symm, rfl⟩
                  · have HG : Hid (v0 (zs.drop i) i = -1) := by show _ = _; rw [HF.out, drop_end zs (p + 1 + 1) (by rw [HL.out]; omega)]; rfl
                    clear HF hB
                    rcases hg with ⟨g1, g2⟩ | ⟨g1, g2⟩ <;> rcases hk with ⟨k1, k2⟩ | ⟨k1, k2⟩
                    all_goals
                      go_wp2
                      go_ret
                      exact ⟨ret_int HG.out.symm, rfl⟩
                | false =>
                  have HF : Hid (v0 (zs.drop i) i = v3d (zs.drop (p + 1)) (p + 1)) := by show _ = _; rw [HE.out, HD1.out]; show (if _ then _ else _) = _; rw [if_neg (by rw [hs]; decide)]
                  unfold sgn at hs
                  rw [decide_eq_false_iff_not] at hs
                  have k1 : (zs[p + 1]?.getD 0 == 43) = false := by rw [beq_eq_false_iff_ne]; omega
                  have k2 : (zs[p + 1]?.getD 0 == 45) = false := by rw [beq_eq_false_iff_ne]; omega
                  clear hs HE
                  cases hd : dig (zs[p + 1]?.getD 0) with
                  | true =>
                    have HG : Hid (v0 (zs.drop i) i = afterD here (zs.drop (p + 1)) (p + 1)) := by show _ = _; rw [HF.out, HD1.out]; show (if _ then _ else _) = _; rw [if_pos hd]
                    clear HF HD1
                    rcases hg with ⟨g1, g2⟩ | ⟨g1, g2⟩
                    all_goals
                      go_wp2_with (first
                        | (go_at_call 39; refine (isDigit_any _ _).mono ?_; rintro e w' ⟨rfl, rfl⟩)
                        | (go_at_call 40; refine (digitsEnd_at _ _ _ _ (p + 1) (by omega) zs _ hn HL.out (by omega) hB).mono ?_; rintro e w' ⟨q, rfl, hq, HQ, rfl⟩))
                      go_meet
                      exact ⟨q, rfl, by show _ = _; rw [HG.out, HQ.out]; rfl, rfl⟩
                  | false =>
                    have HG : Hid (v0 (zs.drop i) i = -1) := by show _ = _; rw [HF.out, HD1.out]; show (if _ then _ else _) = _; rw [if_neg (by rw [hd]; decide)]
                    clear HF HD1 hB
                    rcases hg with ⟨g1, g2⟩ | ⟨g1, g2⟩
                    all_goals
                      go_wp2_with (go_at_call 39; refine (isDigit_any _ _).mono ?_; rintro e w' ⟨rfl, rfl⟩)
                      go_ret
                      exact ⟨ret_int HG.out.symm, rfl⟩
              · have HG : Hid (v0 (zs.drop i) i = -1) := by show _ = _; rw [HE.out, drop_end zs (p + 1) (by rw [HL.out]; omega)]; rfl
                clear HE hB
                rcases hg with ⟨g1, g2⟩ | ⟨g1, g2⟩
                all_goals
                  go_wp2
                  go_ret
                  exact ⟨ret_int HG.out.symm, rfl⟩
          · have HE : Hid (v0 (zs.drop i) i = p) := by show _ = _; rw [HV.out, drop_end zs p (by rw [HL.out]; omega)]; rfl
            clear hB HV
            go_wp2
            go_meet
            exact ⟨p, rfl, HE, rfl⟩
        case rest =>
          clear HV hp hB
          obtain ⟨p, rfl, HV, rfl⟩ := hcut
          go_wp2
          go_ret
          exact ⟨ret_int HV.out.symm, rfl⟩

theorem zzValidNumber_any (b off n c i : Nat) (zs : List Int) (w : World) (hn : n ≤ 2000000) (hl : zs.length = n) (hi : i < n) (hB : Bytes w (some ⟨b, off, none⟩) n zs) :
    Calls Try.prog 10 #[.slice (some ⟨b, off, none⟩) n c, .int .i64 i] w fun e w' => e = .returned (.int .i64 (v0 (zs.drop i) i)) ∧ w' = w := by
  have HL : Hid (zs.length = n) := hl
  clear hl
  go_enter Try.func10, Try.ntmps10
  go_wp2_with (go_at_call 31; refine (validNumber_any _ _ _ _ _ zs _ hn HL.out hi hB).mono ?_; rintro e w' ⟨rfl, rfl⟩)
  go_ret
  exact ⟨rfl, rfl⟩
end Go.Proofs.Qxb6605386a
