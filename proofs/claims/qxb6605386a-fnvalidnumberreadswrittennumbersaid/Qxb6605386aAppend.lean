/-
  Seat b6605386a: jsb1AppendUint (15), jsb1AppendInt (14): a number's digits behind a buffer with room.
-/
import Derived.Test.Qxb6605386aModelRun
import Derived.Test.Qxb6605386aWritten
import Derived.Test.Qxb6605386aLaw1
namespace Go.Proofs.Qxb6605386a
open Go.ChangeShapes Go.WideShapes Go.ChangeAt Go.RowKit

theorem lit_cells (w : World) (xs : List Value) (t : TypeId) : ∀ j u, xs[j]? = some u → (w.alloc (.cells xs.toArray t)).cell? ((⟨w.heap.size, 0, none⟩ : Addr).add j) = some u := by
  intro j u hj
  rw [Addr.add_lit, Nat.zero_add, cell_of_row _ _ _ xs.toArray t (0, 0) (heap_alloc_new w _)]
  simpa using hj

/-- The buffer under way: its row is the first block behind w0; nothing older has turned. -/
def Buf (cap : Nat) (w0 wr : World) (k : Nat) (L : List Int) : Prop :=
  wr.ownsRow w0.heap.size 5 1 (.slice (some ⟨w0.heap.size, 0, none⟩) k cap) k (L.map (Value.int .u8)) ∧ Below w0.heap.size w0 wr ∧ w0.heap.size < wr.heap.size

theorem Buf.len {cap : Nat} {w0 wr : World} {k : Nat} {L : List Int} (h : Buf cap w0 wr k L) : L.length = k := by simpa using h.1.1
/-- Behind an append of M. -/
theorem Buf.grow {cap : Nat} {w0 wr w' : World} {k m : Nat} {L : List Int} (h : Buf cap w0 wr k L) (M : List Int)
    (hown : w'.ownsRow w0.heap.size 5 1 (.slice (some ⟨w0.heap.size, 0, none⟩) m cap) m (L.map (Value.int .u8) ++ M.map (Value.int .u8))) (hg : wr.grownBy w' (some w0.heap.size)) : Buf cap w0 w' m (L ++ M) := by
  obtain ⟨h1, h2, h3⟩ := h
  refine ⟨by rw [List.map_append]; exact hown, h2.grown hg (Nat.le_of_lt h3) (by intro k hk; cases hk; exact Nat.le_refl _), ?_⟩
  have := hg.size
  omega
/-- Behind whatever turns no block of those that were there. -/
theorem Buf.kept {cap : Nat} {w0 wr w' : World} {k : Nat} {L : List Int} (h : Buf cap w0 wr k L) (hb : Below wr.heap.size wr w') : Buf cap w0 w' k L := by
  obtain ⟨h1, h2, h3⟩ := h
  refine ⟨?_, h2.trans (hb.mono (Nat.le_of_lt h3)), Nat.lt_of_lt_of_le h3 hb.size⟩
  obtain ⟨e, h4⟩ := h1
  refine ⟨e, ?_⟩
  rcases h4 with h4 | ⟨g, cp, cur, hv, hg, hh, r⟩
  · exact .inl h4
  · refine .inr ⟨g, cp, cur, hv, hg, ?_, r⟩
    have hlt : g < wr.heap.size := by
      have := Array.getElem?_eq_some_iff.1 hh
      exact this.1
    rw [hb.block g hlt]
    exact hh
theorem Buf.alloc {cap : Nat} {w0 wr : World} {k : Nat} {L : List Int} (h : Buf cap w0 wr k L) (o : Obj) : Buf cap w0 (wr.alloc o) k L :=
  h.kept ((Below.refl _ _).alloc (Nat.le_refl _) o)

/-! ### The digits, from the back -/
/-- u digits' worth are left, m places ahead of them; where a digit is written already, u is not nought. -/
def Inv (U : Int) (m : Nat) : Prop := U * 10 ^ (20 - m) ≤ 18446744073709551615 ∧ (m < 20 → 1 ≤ U)
/-- From place m on all are digits. -/
def Good (xs : List Int) (m : Nat) : Prop := xs.length = 20 ∧ ∀ j, m ≤ j → j < 20 → dig (xs[j]?.getD 0) = true

theorem inv_step {U : Int} {m : Nat} (h : Inv U (m + 1)) (h10 : 10 ≤ U) (hm : m + 1 ≤ 20) : Inv (U / 10) m ∧ 1 ≤ m := by
  obtain ⟨h1, h2⟩ := h
  have e : 20 - m = (20 - (m + 1)) + 1 := by omega
  have hp : (0 : Int) < 10 ^ (20 - (m + 1)) := Int.pow_pos (by decide)
  refine ⟨⟨?_, fun _ => by omega⟩, ?_⟩
  · rw [e, Int.pow_succ]
    have e1 : U / 10 * (10 ^ (20 - (m + 1)) * 10) = (U / 10 * 10) * 10 ^ (20 - (m + 1)) := by
      rw [Int.mul_comm (10 ^ (20 - (m + 1))) 10, ← Int.mul_assoc]
    rw [e1]
    exact Int.le_trans (Int.mul_le_mul_of_nonneg_right (by omega) (by omega)) h1
  · cases m with
    | zero =>
      exfalso
      have e19 : 20 - (0 + 1) = 19 := rfl
      rw [e19] at h1
      omega
    | succ m => omega
theorem good_set {xs : List Int} {m : Nat} {x : Int} (h : Good xs (m + 1)) (hm : m < 20) (hx : dig x = true) : Good (xs.set m x) m := by
  obtain ⟨h1, h2⟩ := h
  refine ⟨by simpa using h1, fun j hj hj2 => ?_⟩
  rw [List.getElem?_set]
  by_cases e : m = j
  · rw [if_pos e, if_pos (by omega)]
    exact hx
  · rw [if_neg e]
    exact h2 j (by omega) hj2
theorem set_row (xs : List Int) (m : Nat) (x : Int) : (xs.map (Value.int .u8)).toArray.setIfInBounds m (.int .u8 x) = ((xs.set m x).map (Value.int .u8)).toArray := by
  simp [List.map_set]
theorem dig_48 (d : Int) (h0 : 0 ≤ d) (h1 : d ≤ 9) : dig (48 + d) = true := (dig_iff _).2 (by omega)

theorem Try.len46 : Try.prog.arrayLen 46 = 20 := by kernel_rfl
theorem Try.elem46 : Try.prog.elem 46 = 5 := by kernel_rfl
/-- 'buf[m:]' of the array of 20 bytes. -/
theorem cut46 (B m : Nat) (hm : m < 20) (W : World) : (Instr.sliceAt 46 (.pointer (some ⟨B, 0, none⟩)) (some (.int .i64 (m : Int))) none none).run Try.prog W = .ok (.slice (some ⟨B, m, none⟩) (20 - m) (20 - m)) W := by
  obtain ⟨i0, hi0, hz0, hz1, hz2⟩ := info_parts Try.info5
  rw [run_sliceAt_array_l W 46 ⟨B, 0, none⟩ (by rw [Try.len46, Try.elem46]; exact Try.underlying46) .i64 m (by omega) (by rw [Try.len46]; omega), Try.len46, Try.elem46]
  simp [sizeOf, typeInfo, hi0, hz1, Result.andThen, slicedAt, Addr.add_lit, show ¬ 20 = m by omega]

theorem whole_of {xs : List Int} {m : Nat} {U : Int} (hG : Good xs (m + 1)) (hI : Inv U (m + 1)) (hm : m < 20) (h0 : 0 ≤ U) (h9 : U ≤ 9) : Whole ((xs.set m (48 + U)).drop m) := by
  have hG' := good_set hG hm (dig_48 U h0 h9)
  have hlen : ((xs.set m (48 + U)).drop m).length = 20 - m := by rw [List.length_drop, hG'.1]
  refine ⟨⟨fun h => ?_, fun c hc => ?_⟩, fun t ht => ?_⟩
  · rw [h] at hlen
    simp at hlen
    omega
  · obtain ⟨j, hj, rfl⟩ := List.mem_iff_getElem.1 hc
    rw [hlen] at hj
    have := hG'.2 (m + j) (by omega) (by omega)
    rw [List.getElem?_eq_getElem (by rw [hG'.1]; omega)] at this
    simpa using this
  · have hh : ((xs.set m (48 + U)).drop m)[0]? = some (48 + U) := by
      rw [List.getElem?_drop, Nat.add_zero, List.getElem?_set, if_pos rfl, if_pos (by rw [hG.1]; omega)]
    rw [ht] at hh hlen
    simp at hh hlen
    have hU : U = 0 := by omega
    have hm19 : ¬ (m + 1 < 20) := fun h => by have := hI.2 h; omega
    exact List.eq_nil_of_length_eq_zero (by omega)
theorem row_cells {w : World} {B m : Nat} {ys : List Int} {t : TypeId} (h : w.heap[B]? = some (.cells (ys.map (Value.int .u8)).toArray t (0, 0))) :
    ∀ j u, ((ys.drop m).map (Value.int .u8))[j]? = some u → w.cell? ((⟨B, m, none⟩ : Addr).add j) = some u := by
  intro j u hj
  rw [Addr.add_lit, cell_of_row _ _ _ _ _ _ h]
  simpa using hj

theorem appendUint_any (cap k : Nat) (u : Int) (L : List Int) (w0 w : World) (hu0 : 0 ≤ u) (hu1 : u ≤ 18446744073709551615) (hbuf : Buf cap w0 w k L) (hroom : k + 20 ≤ cap) :
    Calls Try.prog 15 #[.slice (some ⟨w0.heap.size, 0, none⟩) k cap, .int .u64 u] w fun e w' =>
      ∃ ds : List Int, e = .returned (.slice (some ⟨w0.heap.size, 0, none⟩) (k + ds.length) cap) ∧ Whole ds ∧ ds.length ≤ 20 ∧ Buf cap w0 w' (k + ds.length) (L ++ ds) := by
  obtain ⟨i0, hi0, hz0, hz1, hz2⟩ := info_parts Try.info5
  go_enter Try.func15, Try.ntmps15
  go_wp2
  go_loopw [1, 6] (fun uu kk wr => ∃ U : Int, ∃ m : Nat, uu = .int .u64 U ∧ kk = .int .i64 m ∧ 1 ≤ m ∧ m ≤ 20 ∧ 0 ≤ U ∧ U ≤ 18446744073709551615 ∧ Hid (Inv U m) ∧ ∃ xs : List Int, Hid (Good xs m) ∧ Hid (wr.heap[w.heap.size]? = some (.cells (xs.map (Value.int .u8)).toArray 46 (0, 0))) ∧ Below w.heap.size w wr)
    (fun _ kk _ => (intOf kk).toNat)
  case atStart =>
    refine ⟨u, 20, rfl, rfl, by omega, by omega, hu0, hu1, ⟨by simpa using hu1, fun h => absurd h (by omega)⟩, List.replicate 20 0, ⟨rfl, fun j h1 h2 => absurd h1 (by omega)⟩, heap_alloc_new w _, (Below.refl _ _).alloc (Nat.le_refl _) _⟩
  case round =>
    obtain ⟨U, m, rfl, rfl, hm1, hm2, hU0, hU1, HI, xs, HG, HR, hb⟩ := hrel
    obtain ⟨m, rfl⟩ : ∃ m', m = m' + 1 := ⟨m - 1, by omega⟩
    have hx : ∃ x : Int, wr.cell? ⟨w.heap.size, m, none⟩ = some (.int .u8 x) := by
      rw [cell_of_row _ _ _ _ _ _ HR.out]
      have : m < xs.length := by rw [HG.out.1]; omega
      exact ⟨xs[m], by simp [this]⟩
    obtain ⟨x, hc⟩ := hx
    have hf : wr.frozen? ⟨w.heap.size, m, none⟩ = false := frozen_of_row _ _ _ _ _ HR.out
    by_cases h10 : 10 ≤ U
    · have R0 := inv_step HI.out h10 hm2
      have R1 : Hid (Inv (U / 10) m) := R0.1
      have R2 : 1 ≤ m := R0.2
      have R3 : Hid (Good (xs.set m (48 + U % 10)) m) := good_set HG.out (by omega) (dig_48 _ (by omega) (by omega))
      have R4 : Hid ((wr.setCell ⟨w.heap.size, m, none⟩ (.int .u8 (48 + U % 10))).heap[w.heap.size]? = some (.cells ((xs.set m (48 + U % 10)).map (Value.int .u8)).toArray 46 (0, 0))) := by
        show _ = _
        rw [heap_setCell_same wr w.heap.size m _ 46 _ HR.out, set_row]
      have R5 : Below w.heap.size w (wr.setCell ⟨w.heap.size, m, none⟩ (.int .u8 (48 + U % 10))) := hb.setCell (p := ⟨w.heap.size, m, none⟩) (Nat.le_refl _) _
      clear R0 HI HG HR hbuf
      go_wp2
      go_roundw
      case rel => exact ⟨U / 10, m, rfl, by go_num, R2, by omega, by omega, by omega, R1, _, R3, R4, R5⟩
      case measure => simp [intOf]
    · have h9 : U ≤ 9 := by omega
      have hcut := cut46 w.heap.size m (by omega)
      have hbuf2 : Buf cap w0 (wr.setCell ⟨w.heap.size, m, none⟩ (.int .u8 (48 + U))) k L := hbuf.kept (hb.setCell (p := ⟨w.heap.size, m, none⟩) (Nat.le_refl _) _)
      have hrow : (wr.setCell ⟨w.heap.size, m, none⟩ (.int .u8 (48 + U))).heap[w.heap.size]? = some (.cells ((xs.set m (48 + U)).map (Value.int .u8)).toArray 46 (0, 0)) := by
        rw [heap_setCell_same wr w.heap.size m _ 46 _ HR.out, set_row]
      have hwh : Whole ((xs.set m (48 + U)).drop m) := whole_of HG.out HI.out (by omega) hU0 h9
      have hlen : ((xs.set m (48 + U)).drop m).length = 20 - m := by rw [List.length_drop, List.length_set, HG.out.1]
      obtain ⟨ds, eds⟩ : ∃ ds, ds = (xs.set m (48 + U)).drop m := ⟨_, rfl⟩
      have HC := row_cells (m := m) hrow
      rw [← eds] at hwh hlen HC
      have HC' : Hid (∀ j u, (ds.map (Value.int .u8))[j]? = some u → (wr.setCell ⟨w.heap.size, m, none⟩ (.int .u8 (48 + U))).cell? ((⟨w.heap.size, m, none⟩ : Addr).add j) = some u) := HC
      have HLn : Hid (ds.length = 20 - m) := hlen
      clear HC hlen hrow eds HI HG HR hb hbuf
      have hown2 := hbuf2.1
      go_wp2_with (at_builtin; refine wpList_append_fits _ rfl (.tmp 26) (.tmp 28) 22 rfl w0.heap.size 5 i0 1 Try.underlying22 hi0 hz1 w0.heap.size k cap _ rfl hown2 ⟨w.heap.size, m, none⟩ (20 - m) (20 - m) (ds.map (Value.int .u8)) rfl (by rw [List.length_map, HLn.out]; omega) HC'.out (ints_oneCell .u8 ds) (by omega) ?_; intro w3 hown3 hgrow3)
      have hbuf3 := hbuf2.grow ds hown3 hgrow3
      clear hown3 hgrow3 hown2 hbuf2
      go_ret
      exact ⟨ds, by rw [HLn.out]; rfl, hwh, by rw [HLn.out]; omega, by rw [HLn.out]; exact hbuf3⟩

theorem appendInt_pos (cap k : Nat) (n : Int) (L : List Int) (w0 w : World) (h0 : 0 ≤ n) (h1 : n ≤ 9223372036854775807) (hbuf : Buf cap w0 w k L) (hroom : k + 21 ≤ cap) :
    Calls Try.prog 14 #[.slice (some ⟨w0.heap.size, 0, none⟩) k cap, .int .i64 n] w fun e w' =>
      ∃ I : List Int, e = .returned (.slice (some ⟨w0.heap.size, 0, none⟩) (k + I.length) cap) ∧ Whole I ∧ I.length ≤ 20 ∧ Buf cap w0 w' (k + I.length) (L ++ I) := by
  go_enter Try.func14, Try.ntmps14
  go_wp2_with (go_at_call 15; refine (appendUint_any _ _ _ L w0 _ (by omega) (by omega) hbuf (by omega)).mono ?_; rintro e w' ⟨ds, rfl, hw, hl, hb⟩)
  go_ret
  exact ⟨ds, rfl, hw, hl, hb⟩
theorem appendInt_neg (cap k : Nat) (n : Int) (L : List Int) (w0 w : World) (h0 : n < 0) (h1 : -9223372036854775808 ≤ n) (hbuf : Buf cap w0 w k L) (hroom : k + 21 ≤ cap) :
    Calls Try.prog 14 #[.slice (some ⟨w0.heap.size, 0, none⟩) k cap, .int .i64 n] w fun e w' =>
      ∃ I : List Int, e = .returned (.slice (some ⟨w0.heap.size, 0, none⟩) (k + I.length) cap) ∧ (∃ ds, I = 45 :: ds ∧ Whole ds) ∧ I.length ≤ 21 ∧ Buf cap w0 w' (k + I.length) (L ++ I) := by
  obtain ⟨i0, hi0, hz0, hz1, hz2⟩ := info_parts Try.info5
  have hown := (hbuf.alloc (.cells #[.int .u8 45] 5)).1
  go_enter Try.func14, Try.ntmps14
  go_wp2_with (first
    | (at_builtin; refine wpList_append_fits _ rfl (.tmp 7) (.tmp 8) 22 rfl w0.heap.size 5 i0 1 Try.underlying22 hi0 hz1 w0.heap.size k cap _ rfl hown ⟨w.heap.size, 0, none⟩ 1 1 [.int .u8 45] rfl rfl (lit_cells w [.int .u8 45] 5) (ints_oneCell .u8 [45]) (by omega) ?_; intro w3 hown3 hgrow3; have hbuf3 := (hbuf.alloc _).grow [45] hown3 hgrow3; clear hown3 hgrow3)
    | (go_at_call 15; refine (appendUint_any _ _ _ (L ++ [45]) w0 _ (by omega) (by omega) hbuf3 (by omega)).mono ?_; rintro e w' ⟨ds, rfl, hw, hl, hb⟩))
  have e : k + 1 + ds.length = k + (45 :: ds).length := by simp; omega
  have HB : Hid (Buf cap w0 w' (k + (45 :: ds).length) (L ++ 45 :: ds)) := by
    show Buf _ _ _ _ _
    rw [← e]
    simpa using hb
  have HE : Hid (k + 1 + ds.length = k + (45 :: ds).length) := e
  clear e hb
  go_ret
  exact ⟨45 :: ds, by rw [← HE.out]; rfl, ⟨ds, rfl, hw⟩, by simp; omega, HB.out⟩
end Go.Proofs.Qxb6605386a
