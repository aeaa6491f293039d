/-
  Seat b6605373a: zzCopyBytes (6): a fresh copy of a byte slice.
-/
import Derived.Test.Qxb6605373aHexRune
import Derived.WalkSpells
import Derived.WalkSmall
namespace Go.Proofs.Qxb6605373a
open Go.ChangeShapes Go.WideShapes Go.ChangeAt Go.RowKit

theorem Try.info5 : (Try.prog.info? 5).map (fun i => (i.zero, i.size, i.bytes)) = some (some (.int .u8 0), 1, 1) := by kernel_rfl

/-- What the copy's row holds behind k rounds. -/
def cp (zs : List Int) (n k : Nat) : List Value := (zs.take k ++ List.replicate (n - k) 0).map (Value.int .u8)

theorem cp_zero (zs : List Int) (n : Nat) : cp zs n 0 = List.replicate n (.int .u8 0) := by simp [cp]
theorem cp_len (zs : List Int) (n k : Nat) (hk : k ≤ n) (hl : n ≤ zs.length) : (cp zs n k).length = n := by simp [cp]; omega
theorem cp_step (zs : List Int) (n k : Nat) (hk : k < n) (hl : n ≤ zs.length) : (cp zs n k).set k (.int .u8 (zs[k]?.getD 0)) = cp zs n (k + 1) := by
  apply List.ext_getElem?
  intro j
  have h1 : k < zs.length := by omega
  rw [List.getElem?_set]
  unfold cp
  simp only [List.getElem?_map, List.getElem?_append, List.length_map, List.length_append, List.length_take, List.length_replicate]
  by_cases e : k = j
  · subst e
    rw [if_pos rfl, if_pos (by omega), if_pos (by omega), List.getElem?_take, if_pos (by omega)]
    simp [h1]
  · rw [if_neg e]
    by_cases hj : j < k
    · rw [if_pos (by omega), if_pos (by omega), List.getElem?_take, List.getElem?_take, if_pos (by omega), if_pos (by omega)]
    · rw [if_neg (by omega), if_neg (by omega), List.getElem?_replicate, List.getElem?_replicate]
      congr 1
      by_cases hn : j < n
      · rw [if_pos (by omega), if_pos (by omega)]
      · rw [if_neg (by omega), if_neg (by omega)]
theorem cp_at (zs : List Int) (n k j : Nat) (hk : k ≤ n) (hl : n ≤ zs.length) (hj : j < n) : ∃ x : Int, (cp zs n k)[j]? = some (.int .u8 x) := by
  have : j < (cp zs n k).length := by rw [cp_len zs n k hk hl]; exact hj
  unfold cp at this ⊢
  rw [List.getElem?_map, List.getElem?_eq_getElem (by simpa using this)]
  exact ⟨_, rfl⟩
theorem cp_full (zs : List Int) (n j : Nat) (hl : n ≤ zs.length) (hj : j < n) : (cp zs n n)[j]? = some (.int .u8 (zs.getD j 0)) := by
  have h1 : j < zs.length := by omega
  unfold cp
  simp [hj, h1]

/-- From what the row's step hands over to 'Bytes'. -/
theorem bytes_of {w : World} {x : Addr} {zs : List Int} {n : Nat} (hl : n ≤ zs.length) (h : ∀ i, i < zs.length → w.cell? (x.add i) = some (.int .u8 (zs.getD i 0))) : Bytes w (some x) n zs := by
  intro k hk
  have h1 := h k (by omega)
  obtain ⟨b, off, spot⟩ := x
  have hs : spot = none := by simpa [Addr.add] using World.cell?_spot (h 0 (by omega))
  subst hs
  exact ⟨b, off, rfl, by rw [Addr.add_lit] at h1; exact h1⟩

theorem copy_nil (w : World) :
    Calls Try.prog 6 #[.slice none 0 0] w fun e w' => e = .returned (.slice none 0 0) ∧ w' = w := by
  have hq := fun (w : World) (a : Option Addr) (n c n' c' : Nat) => Lib.run_eql_slice_nil (P := Try.prog) w 22 5 a n c n' c' Try.underlying22
  go_enter Try.func6, Try.ntmps6
  go_wp2
  go_ret
  exact ⟨rfl, rfl⟩
theorem copy_some (ad : Addr) (n c : Nat) (zs : List Int) (w : World) (hn : n ≤ 1048576) (hl : n ≤ zs.length) (hB : Bytes w (some ad) n zs) :
    Calls Try.prog 6 #[.slice (some ad) n c] w fun e w' => e = .returned (.slice (some ⟨w.heap.size, 0, none⟩) n n) ∧ Bytes w' (some ⟨w.heap.size, 0, none⟩) n zs ∧ Below w.heap.size w w' := by
  have hq := fun (w : World) (a : Option Addr) (n c n' c' : Nat) => Lib.run_eql_slice_nil (P := Try.prog) w 22 5 a n c n' c' Try.underlying22
  obtain ⟨i0, hi, hz0, hz1, hz2⟩ := info_parts Try.info5
  have hm : n ≤ maxLen := by unfold maxLen; omega
  go_enter Try.func6, Try.ntmps6
  go_wp2_with (at_make; refine wpList_make_full _ rfl _ _ 22 rfl w.heap.size 5 i0 (.int .u8 0) 1 Try.underlying22 hi hz0 hz1 _ _ _ _ n rfl rfl rfl rfl (by rw [hz2]; omega) hm (Nat.le_refl _) ?_)
  intro w1 hown hgrow
  have hb1 : Below w.heap.size w w1 := (Below.refl _ _).grown hgrow (Nat.le_refl _) (by intro k hk; cases hk)
  have hown0 : Hid (w1.ownsRow w.heap.size 5 1 (.slice (some ⟨w.heap.size, 0, none⟩) n n) n (cp zs n 0)) := by
    show World.ownsRow _ _ _ _ _ _ _
    rw [cp_zero]
    simpa [toList_madeCells_one, Value.cells] using hown
  clear hown hgrow
  go_wp2
  go_loopw [4] (fun i wr => ∃ k : Nat, k ≤ n ∧ i = .int .i64 k ∧ Hid (wr.ownsRow w.heap.size 5 1 (.slice (some ⟨w.heap.size, 0, none⟩) n n) n (cp zs n k)) ∧ Below w.heap.size w wr) (fun i _ => n - (intOf i).toNat)
  case atStart => exact ⟨0, Nat.zero_le _, rfl, hown0, hb1⟩
  case round =>
    clear hown0 hb1
    obtain ⟨k, hk, rfl, hown, hb⟩ := hrel
    by_cases hlt : k < n
    · obtain ⟨b, off, e, hc⟩ := hB k hlt
      obtain rfl := Option.some.inj e
      have hbw : b < w.heap.size := World.block_lt_of_cell? _ _ hc
      have hc1 : wr.cell? ⟨b, off + k, none⟩ = some (.int .u8 (zs[k]?.getD 0)) := by rw [hb.cell (p := ⟨b, off + k, none⟩) hbw, hc]; simp
      obtain ⟨x, hx⟩ := cp_at zs n k k hk hl hlt
      have hc2 : wr.cell? ⟨w.heap.size, k, none⟩ = some (.int .u8 x) := by rw [hown.out.cellAt k (by omega), hx]
      have hf2 : wr.frozen? ⟨w.heap.size, k, none⟩ = false := hown.out.frozenAt k
      have R1 : Hid ((wr.setCell ⟨w.heap.size, k, none⟩ (.int .u8 (zs[k]?.getD 0))).ownsRow w.heap.size 5 1 (.slice (some ⟨w.heap.size, 0, none⟩) n n) n (cp zs n (k + 1))) := by
        have := (hown.out.stored k (.int .u8 (zs[k]?.getD 0))).1
        rw [cp_step zs n k hlt hl] at this
        exact this
      have R2 : Below w.heap.size w (wr.setCell ⟨w.heap.size, k, none⟩ (.int .u8 (zs[k]?.getD 0))) := hb.setCell (p := ⟨w.heap.size, k, none⟩) (Nat.le_refl _) _
      clear hB hc hx hown
      go_wp2
      go_roundw
      case rel => exact ⟨k + 1, by omega, by go_num, R1, R2⟩
      case measure => simp [intOf]; omega
    · obtain rfl : k = n := by omega
      have hfin : Bytes wr (some ⟨w.heap.size, 0, none⟩) k zs := by
        intro j hj
        refine ⟨w.heap.size, 0, rfl, ?_⟩
        rw [Nat.zero_add, hown.out.cellAt j (by omega), cp_full zs k j hl hj]
      go_wp2
      go_ret
      exact ⟨rfl, hfin, hb⟩

/-- Nil or not: a slice of the same length that reads the same, in memory that the call made. -/
theorem copy_any (ao : Option Addr) (n c : Nat) (zs : List Int) (w : World) (hn : n ≤ 1048576) (hl : n ≤ zs.length) (hnil : ao = none → n = 0 ∧ c = 0) (hB : Bytes w ao n zs) :
    Calls Try.prog 6 #[.slice ao n c] w fun e w' => ∃ ao' c', e = .returned (.slice ao' n c') ∧ Bytes w' ao' n zs ∧ Below w.heap.size w w' := by
  cases ao with
  | none =>
    obtain ⟨rfl, rfl⟩ := hnil rfl
    refine (copy_nil w).mono ?_
    rintro e w' ⟨rfl, rfl⟩
    exact ⟨none, 0, rfl, hB, Below.refl _ _⟩
  | some ad =>
    refine (copy_some ad n c zs w hn hl hB).mono ?_
    rintro e w' ⟨rfl, h1, h2⟩
    exact ⟨_, n, rfl, h1, h2⟩
end Go.Proofs.Qxb6605373a
