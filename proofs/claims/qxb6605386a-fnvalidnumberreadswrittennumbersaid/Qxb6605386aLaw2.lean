/-
  Seat b6605386a: FnValidNumberReadsWrittenNumber (4): a number is written and read back.
-/
import Derived.Test.Qxb6605386aEarly
namespace Go.Proofs.Qxb6605386a
open Go.ChangeShapes Go.WideShapes Go.ChangeAt Go.RowKit

/-- The cells of a slice of bytes, nil or not, as what is appended. -/
theorem src_any {w w1 : World} {ao : Option Addr} {n : Nat} {zs : List Int} (hl : zs.length = n) (hB : Bytes w ao n zs) (hb : Below w.heap.size w w1) :
    ∀ ad, ao = some ad → ∀ j v, (zs.map (Value.int .u8))[j]? = some v → w1.cell? (ad.add j) = some v := by
  rintro ad rfl j v hj
  have hjl : j < zs.length := by
    have := (List.getElem?_eq_some_iff.1 hj).1
    simpa using this
  obtain ⟨b', off', e, hc⟩ := hB j (by omega)
  obtain rfl := Option.some.inj e
  rw [Addr.add_lit, hb.cell (p := ⟨b', off' + j, none⟩) (World.block_lt_of_cell? _ _ hc), hc]
  simp [hjl] at hj ⊢
  exact hj

theorem Buf.bytes {cap : Nat} {w0 wr : World} {k : Nat} {L : List Int} (h : Buf cap w0 wr k L) : Bytes wr (some ⟨w0.heap.size, 0, none⟩) k L := by
  intro j hj
  have hlen := h.len
  have h1 : j < L.length := by omega
  refine ⟨_, _, rfl, ?_⟩
  rw [Nat.zero_add, h.1.cellAt j (by omega)]
  simp [h1]

theorem buf_start {cap : Nat} {w w2 : World} (hown : w2.ownsRow w.heap.size 5 1 (.slice (some ⟨w.heap.size, 0, none⟩) 0 cap) 0 []) (hg : w.grownBy w2 none) : Buf cap w w2 0 [] := by
  refine ⟨hown, (Below.refl _ _).grown hg (Nat.le_refl _) (by intro k hk; cases hk), ?_⟩
  rcases hown.2 with ⟨h, _⟩ | ⟨g, cp, cur, h, _, hh, _⟩
  · simp at h
  · simp only [Value.slice.injEq, Option.some.injEq, Addr.mk.injEq, and_true, true_and] at h
    obtain ⟨rfl, rfl⟩ := h
    exact (Array.getElem?_eq_some_iff.1 hh).1

theorem frac_text (m : Nat) (ds : List Int) (h : Whole ds) : FracText (46 :: (List.replicate m 48 ++ ds)) := by
  refine .inr ⟨_, rfl, ?_, ?_⟩
  · intro e
    exact h.1.1 (List.append_eq_nil_iff.1 e).2
  · intro c hc
    rw [List.mem_append] at hc
    rcases hc with hc | hc
    · rw [List.eq_of_mem_replicate hc]; rfl
    · exact h.1.2 c hc

theorem int_pos {I : List Int} (h : IntText I) : 1 ≤ I.length := by
  rcases h with h | ⟨ds, rfl, _⟩
  · have := List.length_pos_iff.2 h.1.1
    omega
  · simp
theorem read_back (P I F E T : List Int) (n0 : Nat) (hP : P.length = n0) (hI : IntText I) (hF : FracText F) (hE : ExpText E) (hT : Ends T) :
    v0 ((P ++ I ++ F ++ E ++ T).drop n0) n0 = (n0 : Int) + I.length + F.length + E.length := by
  have e : (P ++ I ++ F ++ E ++ T).drop n0 = I ++ (F ++ (E ++ T)) := by
    rw [← hP]
    simp [List.append_assoc]
  rw [e, v0_run I F E T n0 hI hF hE hT]
  omega
theorem exp_text (e : Int) (he : isE e = true) (I : List Int) (h : IntText I) : ExpText (e :: I) := by
  refine .inr ⟨e, I, rfl, he, ?_⟩
  rcases h with h | ⟨ds, rfl, h⟩
  · exact .inl h.1
  · exact .inr ⟨45, ds, rfl, rfl, h.1⟩
theorem exp_plus (e : Int) (he : isE e = true) (I : List Int) (h : Whole I) : ExpText (e :: 43 :: I) :=
  .inr ⟨e, _, rfl, he, .inr ⟨43, I, rfl, rfl, h.1⟩⟩

theorem appendInt_any (cap k : Nat) (n : Int) (L : List Int) (w0 w : World) (h0 : -9223372036854775808 ≤ n) (h1 : n ≤ 9223372036854775807) (hbuf : Buf cap w0 w k L) (hroom : k + 21 ≤ cap) :
    Calls Try.prog 14 #[.slice (some ⟨w0.heap.size, 0, none⟩) k cap, .int .i64 n] w fun e w' =>
      ∃ I : List Int, e = .returned (.slice (some ⟨w0.heap.size, 0, none⟩) (k + I.length) cap) ∧ IntText I ∧ I.length ≤ 21 ∧ Buf cap w0 w' (k + I.length) (L ++ I) := by
  by_cases hn : n < 0
  · refine (appendInt_neg cap k n L w0 w hn h0 hbuf hroom).mono ?_
    rintro e w' ⟨I, rfl, hI, hl, hb⟩
    exact ⟨I, rfl, .inr hI, hl, hb⟩
  · refine (appendInt_pos cap k n L w0 w (by omega) h1 hbuf hroom).mono ?_
    rintro e w' ⟨I, rfl, hI, hl, hb⟩
    exact ⟨I, rfl, .inl hI, by omega, hb⟩

set_option maxHeartbeats 4000000 in
set_option maxRecDepth 100000 in
theorem law2_main (a0 a9 : Option Addr) (n0 c0 n9 c9 : Nat) (x1 x3 x4 x8 : Int) (b2 b5 b6 b7 : Bool) (P T : List Int) (w : World)
    (h : n0 + n9 ≤ 1048576) (h10 : -9223372036854775808 ≤ x1) (h11 : x1 ≤ 9223372036854775807) (h30 : 0 ≤ x3) (h31 : x3 ≤ 255) (h40 : 0 ≤ x4) (h41 : x4 ≤ 18446744073709551615) (h80 : -9223372036854775808 ≤ x8) (h81 : x8 ≤ 9223372036854775807)
    (hP : P.length = n0) (hT : T.length = n9) (hnil0 : a0 = none → n0 = 0 ∧ c0 = 0) (hnil9 : a9 = none → n9 = 0 ∧ c9 = 0) (hB0 : Bytes w a0 n0 P) (hB9 : Bytes w a9 n9 T) (hE : Ends T) :
    Calls Try.prog 4 #[.slice a0 n0 c0, .int .i64 x1, .bool b2, .int .u8 x3, .int .u64 x4, .bool b5, .bool b6, .bool b7, .int .i64 x8, .slice a9 n9 c9] w fun e w' => e = .returned (.bool true) ∧ Below w.heap.size w w' := by
  obtain ⟨fz, rfl⟩ := Int.eq_ofNat_of_zero_le h30
  have HP : Hid (P.length = n0) := hP
  have HT : Hid (T.length = n9) := hT
  have HN0 : Hid (a0 = none → n0 = 0 ∧ c0 = 0) := hnil0
  have HN9 : Hid (a9 = none → n9 = 0 ∧ c9 = 0) := hnil9
  clear hP hT hnil0 hnil9
  obtain ⟨i0, hi0, hz0, hz1, hz2⟩ := info_parts Try.info5
  go_enter Try.func4, Try.ntmps4
  go_upto_region 7 with (go_at_call 12; refine (bound2_yes _ _ _ _ _ _ _ _ _ _ _ _ _ _ _ h).mono ?_; rintro e w' ⟨rfl, rfl⟩)
  go_cut [59] from 25 (fun s59 wx => s59 = .bool false ∧ wx = w')
  case first =>
    by_cases h9 : 0 < n9
    · obtain ⟨b, off, rfl, hc⟩ := hB9 0 h9
      have hc1 : w'.cell? ⟨b, off, none⟩ = some (.int .u8 (T[0]?.getD 0)) := by simpa using hc
      have hcn : cont (T[0]?.getD 0) = false := by
        have := HT.out
        cases T with
        | nil => simp at this; omega
        | cons c t =>
          have hh := hE c t rfl
          simp [cont, hh]
      have HCN : Hid (cont (T[0]?.getD 0) = false) := hcn
      clear hB0 hB9 hE hc hcn HN9
      go_wp2_with (go_at_call 13; refine (continues_no _ _ HCN.out).mono ?_; rintro e w'' ⟨rfl, rfl⟩)
      go_meet
      exact ⟨rfl, rfl⟩
    · have h9' : n9 ≤ 0 := by omega
      clear hB0 hB9 hE
      go_wp2
      go_meet
      exact ⟨rfl, rfl⟩
  case rest =>
    obtain ⟨rfl, rfl⟩ := hcut
    obtain ⟨wb, rfl⟩ : ∃ wb : World, wb = wc := ⟨_, rfl⟩
    go_upto_if 75 with (first
      | (at_make; refine wpList_make_own _ rfl _ _ 22 rfl wb.heap.size 5 i0 (.int .u8 0) 1 Try.underlying22 hi0 hz0 hz1 _ _ _ (n0 + n9 + 400) rfl rfl (by omega) (by rw [hz2]; omega) (by unfold maxLen; omega) (Nat.le_refl _) ?_; intro w2 hown2 hgrow2)
      | (at_builtin; refine wpList_append_fits_any _ rfl (.tmp 67) (.tmp 68) 22 rfl wb.heap.size 5 i0 1 Try.underlying22 hi0 hz1 wb.heap.size 0 (n0 + n9 + 400) [] rfl hown2 a0 n0 c0 (P.map (Value.int .u8)) rfl (by rw [List.length_map, HP.out]; omega) HN0.out (src_any HP.out hB0 ((Below.refl _ _).grown hgrow2 (Nat.le_refl _) (by intro k hk; cases hk))) (ints_oneCell .u8 P) (by omega) ?_; intro w3 hown3 hgrow3; have hbuf3 : Buf (n0 + n9 + 400) wb w3 n0 P := (buf_start hown2 hgrow2).grow P (by simpa using hown3) hgrow3; clear hown2 hgrow2 hown3 hgrow3)
      | (go_at_call 14; refine (appendInt_any _ _ _ P wb _ h10 h11 hbuf3 (by omega)).mono ?_; rintro e w4 ⟨I, rfl, hI, hIl, hbuf4⟩; clear hbuf3))
    clear hB0 HN0 h10 h11
    have HI : Hid (IntText I) := hI
    clear hI
    go_cut [21] from 25 (fun s21 wx => ∃ F : List Int, s21 = .slice (some ⟨wb.heap.size, 0, none⟩) (n0 + I.length + F.length) (n0 + n9 + 400) ∧ F.length ≤ 276 ∧ Hid (FracText F) ∧ Buf (n0 + n9 + 400) wb wx (n0 + I.length + F.length) (P ++ I ++ F))
    case first =>
      cases b2 with
      | false =>
        go_wp2
        go_meet
        exact ⟨[], rfl, by simp, .inl rfl, by simpa using hbuf4⟩
      | true =>
        have hown4 := (hbuf4.alloc (.cells #[.int .u8 46] 5)).1
        go_wp2_with (at_builtin; refine wpList_append_fits _ rfl (.tmp 76) (.tmp 77) 22 rfl wb.heap.size 5 i0 1 Try.underlying22 hi0 hz1 wb.heap.size (n0 + I.length) (n0 + n9 + 400) _ rfl hown4 ⟨w4.heap.size, 0, none⟩ 1 1 [.int .u8 46] rfl rfl (lit_cells w4 [.int .u8 46] 5) (ints_oneCell .u8 [46]) (by omega) ?_; intro w5 hown5 hgrow5)
        have hbuf5 := (hbuf4.alloc _).grow [46] hown5 hgrow5
        clear hown4 hown5 hgrow5 hbuf4
        go_loopw [21, 23] (fun s21 s23 wr => ∃ m : Nat, m ≤ fz ∧ s23 = .int .i64 m ∧ s21 = .slice (some ⟨wb.heap.size, 0, none⟩) (n0 + I.length + 1 + m) (n0 + n9 + 400) ∧ Buf (n0 + n9 + 400) wb wr (n0 + I.length + 1 + m) (P ++ I ++ 46 :: List.replicate m 48)) (fun _ s23 _ => fz - (intOf s23).toNat)
        case atStart => exact ⟨0, Nat.zero_le _, rfl, rfl, hbuf5⟩
        case round =>
          clear hbuf5
          obtain ⟨m, hm, rfl, rfl, hbuf⟩ := hrel
          by_cases hlt : m < fz
          · have hown := (hbuf.alloc (.cells #[.int .u8 48] 5)).1
            go_wp2_with (at_builtin; refine wpList_append_fits _ rfl (.tmp 85) (.tmp 86) 22 rfl wb.heap.size 5 i0 1 Try.underlying22 hi0 hz1 wb.heap.size (n0 + I.length + 1 + m) (n0 + n9 + 400) _ rfl hown ⟨wr.heap.size, 0, none⟩ 1 1 [.int .u8 48] rfl rfl (lit_cells wr [.int .u8 48] 5) (ints_oneCell .u8 [48]) (by omega) ?_; intro w6 hown6 hgrow6)
            have hbuf6 := (hbuf.alloc _).grow [48] hown6 hgrow6
            clear hown hown6 hgrow6 hbuf
            go_roundw
            case rel => exact ⟨m + 1, by omega, by go_num, rfl, by rw [List.replicate_succ']; simpa [Nat.add_assoc] using hbuf6⟩
            case measure => simp [intOf]; omega
          · obtain rfl : m = fz := by omega
            go_wp2_with (go_at_call 15; refine (appendUint_any _ _ _ _ wb _ h40 h41 hbuf (by omega)).mono ?_; rintro e w7 ⟨ds, rfl, hw, hdl, hbuf7⟩; clear hbuf)
            have e : n0 + I.length + 1 + m + ds.length = n0 + I.length + (46 :: (List.replicate m 48 ++ ds)).length := by simp; omega
            have HB : Hid (Buf (n0 + n9 + 400) wb w7 (n0 + I.length + (46 :: (List.replicate m 48 ++ ds)).length) (P ++ I ++ 46 :: (List.replicate m 48 ++ ds))) := by
              show Buf _ _ _ _ _
              rw [← e]
              simpa using hbuf7
            have HE : Hid (n0 + I.length + 1 + m + ds.length = n0 + I.length + (46 :: (List.replicate m 48 ++ ds)).length) := e
            clear e hbuf7
            go_meet
            exact ⟨46 :: (List.replicate m 48 ++ ds), by rw [← HE.out], by simp; omega, frac_text m ds hw, HB.out⟩
    case rest =>
      clear hbuf4 h40 h41 h31
      obtain ⟨F, rfl, hFl, HF, hbuf⟩ := hcut
      go_upto_if 91 with fail
      go_cut [21] from 25 (fun s21 wx => ∃ E : List Int, s21 = .slice (some ⟨wb.heap.size, 0, none⟩) (n0 + I.length + F.length + E.length) (n0 + n9 + 400) ∧ E.length ≤ 23 ∧ Hid (ExpText E) ∧ Buf (n0 + n9 + 400) wb wx (n0 + I.length + F.length + E.length) (P ++ I ++ F ++ E))
      case first =>
        obtain ⟨wd, rfl⟩ : ∃ wd : World, wd = wc := ⟨_, rfl⟩
        cases b5 with
        | false =>
          go_wp2
          go_meet
          exact ⟨[], rfl, by simp, .inl rfl, by simpa using hbuf⟩
        | true =>
          cases b6 <;> cases b7 <;> rcases (show 0 ≤ x8 ∨ x8 < 0 from by omega) with hx0 | hx0
          · have hown1 := (hbuf.alloc (.cells #[.int .u8 101] 5)).1
            go_wp2_with (first
              | (at_builtin; refine wpList_append_fits _ rfl (.tmp 96) (.tmp 97) 22 rfl wb.heap.size 5 i0 1 Try.underlying22 hi0 hz1 wb.heap.size (n0 + I.length + F.length) (n0 + n9 + 400) _ rfl hown1 ⟨wd.heap.size, 0, none⟩ 1 1 [.int .u8 101] rfl rfl (lit_cells wd [.int .u8 101] 5) (ints_oneCell .u8 [101]) (by omega) ?_; intro w5 hown5 hgrow5; have hbuf5 := (hbuf.alloc _).grow [101] hown5 hgrow5; clear hown5 hgrow5 hown1 hbuf)
              | (go_at_call 14; refine (appendInt_any _ _ _ _ wb _ h80 h81 hbuf5 (by omega)).mono ?_; rintro e w7 ⟨J, rfl, hJ, hJl, hbuf7⟩; clear hbuf5))
            have e : n0 + I.length + F.length + 1 + J.length = n0 + I.length + F.length + (101 :: J).length := by simp; omega
            have HB : Hid (Buf (n0 + n9 + 400) wb w7 (n0 + I.length + F.length + (101 :: J).length) (P ++ I ++ F ++ 101 :: J)) := by
              show Buf _ _ _ _ _
              rw [← e]
              simpa using hbuf7
            have HE : Hid (n0 + I.length + F.length + 1 + J.length = n0 + I.length + F.length + (101 :: J).length) := e
            clear e hbuf7
            go_meet
            exact ⟨101 :: J, by rw [← HE.out], by simp; omega, exp_text 101 rfl J hJ, HB.out⟩
          · have hown1 := (hbuf.alloc (.cells #[.int .u8 101] 5)).1
            go_wp2_with (first
              | (at_builtin; refine wpList_append_fits _ rfl (.tmp 96) (.tmp 97) 22 rfl wb.heap.size 5 i0 1 Try.underlying22 hi0 hz1 wb.heap.size (n0 + I.length + F.length) (n0 + n9 + 400) _ rfl hown1 ⟨wd.heap.size, 0, none⟩ 1 1 [.int .u8 101] rfl rfl (lit_cells wd [.int .u8 101] 5) (ints_oneCell .u8 [101]) (by omega) ?_; intro w5 hown5 hgrow5; have hbuf5 := (hbuf.alloc _).grow [101] hown5 hgrow5; clear hown5 hgrow5 hown1 hbuf)
              | (go_at_call 14; refine (appendInt_any _ _ _ _ wb _ h80 h81 hbuf5 (by omega)).mono ?_; rintro e w7 ⟨J, rfl, hJ, hJl, hbuf7⟩; clear hbuf5))
            have e : n0 + I.length + F.length + 1 + J.length = n0 + I.length + F.length + (101 :: J).length := by simp; omega
            have HB : Hid (Buf (n0 + n9 + 400) wb w7 (n0 + I.length + F.length + (101 :: J).length) (P ++ I ++ F ++ 101 :: J)) := by
              show Buf _ _ _ _ _
              rw [← e]
              simpa using hbuf7
            have HE : Hid (n0 + I.length + F.length + 1 + J.length = n0 + I.length + F.length + (101 :: J).length) := e
            clear e hbuf7
            go_meet
            exact ⟨101 :: J, by rw [← HE.out], by simp; omega, exp_text 101 rfl J hJ, HB.out⟩
          · have hown1 := (hbuf.alloc (.cells #[.int .u8 101] 5)).1
            go_wp2_with (first
              | (at_builtin; refine wpList_append_fits _ rfl (.tmp 96) (.tmp 97) 22 rfl wb.heap.size 5 i0 1 Try.underlying22 hi0 hz1 wb.heap.size (n0 + I.length + F.length) (n0 + n9 + 400) _ rfl hown1 ⟨wd.heap.size, 0, none⟩ 1 1 [.int .u8 101] rfl rfl (lit_cells wd [.int .u8 101] 5) (ints_oneCell .u8 [101]) (by omega) ?_; intro w5 hown5 hgrow5; have hbuf5 := (hbuf.alloc _).grow [101] hown5 hgrow5; clear hown5 hgrow5 hown1 hbuf; have hown6 := (hbuf5.alloc (.cells #[.int .u8 43] 5)).1)
              | (at_builtin; refine wpList_append_fits _ rfl (.tmp 104) (.tmp 105) 22 rfl wb.heap.size 5 i0 1 Try.underlying22 hi0 hz1 wb.heap.size (n0 + I.length + F.length + 1) (n0 + n9 + 400) _ rfl hown6 ⟨w5.heap.size, 0, none⟩ 1 1 [.int .u8 43] rfl rfl (lit_cells w5 [.int .u8 43] 5) (ints_oneCell .u8 [43]) (by omega) ?_; intro w6 hown7 hgrow7; have hbuf6 := (hbuf5.alloc _).grow [43] hown7 hgrow7; clear hown7 hgrow7 hown6 hbuf5)
              | (go_at_call 14; refine (appendInt_pos _ _ _ _ wb _ hx0 h81 hbuf6 (by omega)).mono ?_; rintro e w7 ⟨J, rfl, hJ, hJl, hbuf7⟩; clear hbuf6))
            have e : n0 + I.length + F.length + 1 + 1 + J.length = n0 + I.length + F.length + (101 :: 43 :: J).length := by simp; omega
            have HB : Hid (Buf (n0 + n9 + 400) wb w7 (n0 + I.length + F.length + (101 :: 43 :: J).length) (P ++ I ++ F ++ 101 :: 43 :: J)) := by
              show Buf _ _ _ _ _
              rw [← e]
              simpa using hbuf7
            have HE : Hid (n0 + I.length + F.length + 1 + 1 + J.length = n0 + I.length + F.length + (101 :: 43 :: J).length) := e
            clear e hbuf7
            go_meet
            exact ⟨101 :: 43 :: J, by rw [← HE.out], by simp; omega, exp_plus 101 rfl J hJ, HB.out⟩
          · have hown1 := (hbuf.alloc (.cells #[.int .u8 101] 5)).1
            go_wp2_with (first
              | (at_builtin; refine wpList_append_fits _ rfl (.tmp 96) (.tmp 97) 22 rfl wb.heap.size 5 i0 1 Try.underlying22 hi0 hz1 wb.heap.size (n0 + I.length + F.length) (n0 + n9 + 400) _ rfl hown1 ⟨wd.heap.size, 0, none⟩ 1 1 [.int .u8 101] rfl rfl (lit_cells wd [.int .u8 101] 5) (ints_oneCell .u8 [101]) (by omega) ?_; intro w5 hown5 hgrow5; have hbuf5 := (hbuf.alloc _).grow [101] hown5 hgrow5; clear hown5 hgrow5 hown1 hbuf)
              | (go_at_call 14; refine (appendInt_any _ _ _ _ wb _ h80 h81 hbuf5 (by omega)).mono ?_; rintro e w7 ⟨J, rfl, hJ, hJl, hbuf7⟩; clear hbuf5))
            have e : n0 + I.length + F.length + 1 + J.length = n0 + I.length + F.length + (101 :: J).length := by simp; omega
            have HB : Hid (Buf (n0 + n9 + 400) wb w7 (n0 + I.length + F.length + (101 :: J).length) (P ++ I ++ F ++ 101 :: J)) := by
              show Buf _ _ _ _ _
              rw [← e]
              simpa using hbuf7
            have HE : Hid (n0 + I.length + F.length + 1 + J.length = n0 + I.length + F.length + (101 :: J).length) := e
            clear e hbuf7
            go_meet
            exact ⟨101 :: J, by rw [← HE.out], by simp; omega, exp_text 101 rfl J hJ, HB.out⟩
          · have hown1 := (hbuf.alloc (.cells #[.int .u8 69] 5)).1
            go_wp2_with (first
              | (at_builtin; refine wpList_append_fits _ rfl (.tmp 93) (.tmp 94) 22 rfl wb.heap.size 5 i0 1 Try.underlying22 hi0 hz1 wb.heap.size (n0 + I.length + F.length) (n0 + n9 + 400) _ rfl hown1 ⟨wd.heap.size, 0, none⟩ 1 1 [.int .u8 69] rfl rfl (lit_cells wd [.int .u8 69] 5) (ints_oneCell .u8 [69]) (by omega) ?_; intro w5 hown5 hgrow5; have hbuf5 := (hbuf.alloc _).grow [69] hown5 hgrow5; clear hown5 hgrow5 hown1 hbuf)
              | (go_at_call 14; refine (appendInt_any _ _ _ _ wb _ h80 h81 hbuf5 (by omega)).mono ?_; rintro e w7 ⟨J, rfl, hJ, hJl, hbuf7⟩; clear hbuf5))
            have e : n0 + I.length + F.length + 1 + J.length = n0 + I.length + F.length + (69 :: J).length := by simp; omega
            have HB : Hid (Buf (n0 + n9 + 400) wb w7 (n0 + I.length + F.length + (69 :: J).length) (P ++ I ++ F ++ 69 :: J)) := by
              show Buf _ _ _ _ _
              rw [← e]
              simpa using hbuf7
            have HE : Hid (n0 + I.length + F.length + 1 + J.length = n0 + I.length + F.length + (69 :: J).length) := e
            clear e hbuf7
            go_meet
            exact ⟨69 :: J, by rw [← HE.out], by simp; omega, exp_text 69 rfl J hJ, HB.out⟩
          · have hown1 := (hbuf.alloc (.cells #[.int .u8 69] 5)).1
            go_wp2_with (first
              | (at_builtin; refine wpList_append_fits _ rfl (.tmp 93) (.tmp 94) 22 rfl wb.heap.size 5 i0 1 Try.underlying22 hi0 hz1 wb.heap.size (n0 + I.length + F.length) (n0 + n9 + 400) _ rfl hown1 ⟨wd.heap.size, 0, none⟩ 1 1 [.int .u8 69] rfl rfl (lit_cells wd [.int .u8 69] 5) (ints_oneCell .u8 [69]) (by omega) ?_; intro w5 hown5 hgrow5; have hbuf5 := (hbuf.alloc _).grow [69] hown5 hgrow5; clear hown5 hgrow5 hown1 hbuf)
              | (go_at_call 14; refine (appendInt_any _ _ _ _ wb _ h80 h81 hbuf5 (by omega)).mono ?_; rintro e w7 ⟨J, rfl, hJ, hJl, hbuf7⟩; clear hbuf5))
            have e : n0 + I.length + F.length + 1 + J.length = n0 + I.length + F.length + (69 :: J).length := by simp; omega
            have HB : Hid (Buf (n0 + n9 + 400) wb w7 (n0 + I.length + F.length + (69 :: J).length) (P ++ I ++ F ++ 69 :: J)) := by
              show Buf _ _ _ _ _
              rw [← e]
              simpa using hbuf7
            have HE : Hid (n0 + I.length + F.length + 1 + J.length = n0 + I.length + F.length + (69 :: J).length) := e
            clear e hbuf7
            go_meet
            exact ⟨69 :: J, by rw [← HE.out], by simp; omega, exp_text 69 rfl J hJ, HB.out⟩
          · have hown1 := (hbuf.alloc (.cells #[.int .u8 69] 5)).1
            go_wp2_with (first
              | (at_builtin; refine wpList_append_fits _ rfl (.tmp 93) (.tmp 94) 22 rfl wb.heap.size 5 i0 1 Try.underlying22 hi0 hz1 wb.heap.size (n0 + I.length + F.length) (n0 + n9 + 400) _ rfl hown1 ⟨wd.heap.size, 0, none⟩ 1 1 [.int .u8 69] rfl rfl (lit_cells wd [.int .u8 69] 5) (ints_oneCell .u8 [69]) (by omega) ?_; intro w5 hown5 hgrow5; have hbuf5 := (hbuf.alloc _).grow [69] hown5 hgrow5; clear hown5 hgrow5 hown1 hbuf; have hown6 := (hbuf5.alloc (.cells #[.int .u8 43] 5)).1)
              | (at_builtin; refine wpList_append_fits _ rfl (.tmp 104) (.tmp 105) 22 rfl wb.heap.size 5 i0 1 Try.underlying22 hi0 hz1 wb.heap.size (n0 + I.length + F.length + 1) (n0 + n9 + 400) _ rfl hown6 ⟨w5.heap.size, 0, none⟩ 1 1 [.int .u8 43] rfl rfl (lit_cells w5 [.int .u8 43] 5) (ints_oneCell .u8 [43]) (by omega) ?_; intro w6 hown7 hgrow7; have hbuf6 := (hbuf5.alloc _).grow [43] hown7 hgrow7; clear hown7 hgrow7 hown6 hbuf5)
              | (go_at_call 14; refine (appendInt_pos _ _ _ _ wb _ hx0 h81 hbuf6 (by omega)).mono ?_; rintro e w7 ⟨J, rfl, hJ, hJl, hbuf7⟩; clear hbuf6))
            have e : n0 + I.length + F.length + 1 + 1 + J.length = n0 + I.length + F.length + (69 :: 43 :: J).length := by simp; omega
            have HB : Hid (Buf (n0 + n9 + 400) wb w7 (n0 + I.length + F.length + (69 :: 43 :: J).length) (P ++ I ++ F ++ 69 :: 43 :: J)) := by
              show Buf _ _ _ _ _
              rw [← e]
              simpa using hbuf7
            have HE : Hid (n0 + I.length + F.length + 1 + 1 + J.length = n0 + I.length + F.length + (69 :: 43 :: J).length) := e
            clear e hbuf7
            go_meet
            exact ⟨69 :: 43 :: J, by rw [← HE.out], by simp; omega, exp_plus 69 rfl J hJ, HB.out⟩
          · have hown1 := (hbuf.alloc (.cells #[.int .u8 69] 5)).1
            go_wp2_with (first
              | (at_builtin; refine wpList_append_fits _ rfl (.tmp 93) (.tmp 94) 22 rfl wb.heap.size 5 i0 1 Try.underlying22 hi0 hz1 wb.heap.size (n0 + I.length + F.length) (n0 + n9 + 400) _ rfl hown1 ⟨wd.heap.size, 0, none⟩ 1 1 [.int .u8 69] rfl rfl (lit_cells wd [.int .u8 69] 5) (ints_oneCell .u8 [69]) (by omega) ?_; intro w5 hown5 hgrow5; have hbuf5 := (hbuf.alloc _).grow [69] hown5 hgrow5; clear hown5 hgrow5 hown1 hbuf)
              | (go_at_call 14; refine (appendInt_any _ _ _ _ wb _ h80 h81 hbuf5 (by omega)).mono ?_; rintro e w7 ⟨J, rfl, hJ, hJl, hbuf7⟩; clear hbuf5))
            have e : n0 + I.length + F.length + 1 + J.length = n0 + I.length + F.length + (69 :: J).length := by simp; omega
            have HB : Hid (Buf (n0 + n9 + 400) wb w7 (n0 + I.length + F.length + (69 :: J).length) (P ++ I ++ F ++ 69 :: J)) := by
              show Buf _ _ _ _ _
              rw [← e]
              simpa using hbuf7
            have HE : Hid (n0 + I.length + F.length + 1 + J.length = n0 + I.length + F.length + (69 :: J).length) := e
            clear e hbuf7
            go_meet
            exact ⟨69 :: J, by rw [← HE.out], by simp; omega, exp_text 69 rfl J hJ, HB.out⟩
      case rest =>
        clear hbuf h80 h81
        obtain ⟨E, rfl, hEl, HX, hbuf⟩ := hcut
        have hown := hbuf.1
        have hbW : Below wb.heap.size wb wc := hbuf.2.1
        have HV : Hid (v0 ((P ++ I ++ F ++ E ++ T).drop n0) n0 = (n0 : Int) + I.length + F.length + E.length) := read_back P I F E T n0 HP.out HI.out HF.out HX.out hE
        obtain ⟨L, eL⟩ : ∃ L, L = P ++ I ++ F ++ E ++ T := ⟨_, rfl⟩
        rw [← eL] at HV
        have HL : Hid (L = P ++ I ++ F ++ E ++ T) := eL
        have hI1 := int_pos HI.out
        have hN1 : n0 + I.length + F.length + E.length + n9 ≤ 2000000 := by omega
        have hN2 : n0 < n0 + I.length + F.length + E.length + n9 := by omega
        clear eL HI HF HX hE
        go_wp2_with (first
          | (at_builtin; refine wpList_append_fits_any _ rfl (.tmp 112) (.tmp 113) 22 rfl wb.heap.size 5 i0 1 Try.underlying22 hi0 hz1 wb.heap.size (n0 + I.length + F.length + E.length) (n0 + n9 + 400) _ rfl hown a9 n9 c9 (T.map (Value.int .u8)) rfl (by rw [List.length_map, HT.out]; omega) HN9.out (src_any HT.out hB9 hbW) (ints_oneCell .u8 T) (by omega) ?_; intro w8 hown8 hgrow8; have hbuf8 : Buf (n0 + n9 + 400) wb w8 (n0 + I.length + F.length + E.length + n9) L := by (rw [HL.out]; exact hbuf.grow T hown8 hgrow8))
          | (go_at_call 10; refine (zzValidNumber_any _ _ _ _ _ L _ hN1 hbuf8.len hN2 hbuf8.bytes).mono ?_; rintro e w9 ⟨rfl, rfl⟩))
        go_ret
        exact ⟨ret_bool' (by rw [HV.out]; simp), hbuf8.2.1⟩
end Go.Proofs.Qxb6605386a
