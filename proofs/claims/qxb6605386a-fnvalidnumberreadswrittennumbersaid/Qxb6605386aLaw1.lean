/-
  Seat b6605386a: FnValidNumberMatchesAutomaton (3).
-/
import Derived.Test.Qxb6605386aReader
import Derived.WalkLawsBesides
import Derived.Laws.CopyOwn
namespace Go.Proofs.Qxb6605386a
open Go.ChangeShapes Go.WideShapes Go.ChangeAt Go.RowKit

theorem Try.info5 : (Try.prog.info? 5).map (fun i => (i.zero, i.size, i.bytes)) = some (some (.int .u8 0), 1, 1) := by kernel_rfl

theorem bound_yes (ao : Option Addr) (n c : Nat) (x : Int) (w : World) (h : n ≤ 1048576) :
    Calls Try.prog 9 #[.slice ao n c, .int .i64 x] w fun e w' => e = .returned (.bool true) ∧ w' = w := by
  go_enter Try.func9, Try.ntmps9
  go_wp2
  go_ret
  exact ⟨rfl, rfl⟩
theorem bound_no (ao : Option Addr) (n c : Nat) (x : Int) (w : World) (h : 1048576 < n) :
    Calls Try.prog 9 #[.slice ao n c, .int .i64 x] w fun e w' => e = .returned (.bool false) ∧ w' = w := by
  go_enter Try.func9, Try.ntmps9
  go_wp2
  go_ret
  exact ⟨rfl, rfl⟩

theorem law1_long (ao : Option Addr) (n c : Nat) (x : Int) (w : World) (h : 1048576 < n) :
    Calls Try.prog 3 #[.slice ao n c, .int .i64 x] w fun e w' => e = .returned (.bool true) ∧ Below w.heap.size w w' := by
  go_enter Try.func3, Try.ntmps3
  go_wp2_with (go_at_call 9; refine (bound_no _ _ _ _ _ h).mono ?_; rintro e w' ⟨rfl, rfl⟩)
  go_ret
  exact ⟨rfl, Below.refl _ _⟩
theorem law1_out (ao : Option Addr) (n c : Nat) (x : Int) (w : World) (h : n ≤ 1048576) (hx : x < 0 ∨ (n : Int) ≤ x) :
    Calls Try.prog 3 #[.slice ao n c, .int .i64 x] w fun e w' => e = .returned (.bool true) ∧ Below w.heap.size w w' := by
  by_cases h0 : x < 0
  · clear hx
    go_enter Try.func3, Try.ntmps3
    go_wp2_with (go_at_call 9; refine (bound_yes _ _ _ _ _ h).mono ?_; rintro e w' ⟨rfl, rfl⟩)
    go_ret
    exact ⟨rfl, Below.refl _ _⟩
  · have h1 : 0 ≤ x := by omega
    have h2 : (n : Int) ≤ x := by omega
    clear hx h0
    go_enter Try.func3, Try.ntmps3
    go_wp2_with (go_at_call 9; refine (bound_yes _ _ _ _ _ h).mono ?_; rintro e w' ⟨rfl, rfl⟩)
    go_ret
    exact ⟨rfl, Below.refl _ _⟩

/-- The row that 'make' laid: n cells in the first block behind w. -/
theorem made_row {w w1 : World} {n : Nat} {xs : List Value} (hown : w1.ownsRow w.heap.size 5 1 (.slice (some ⟨w.heap.size, 0, none⟩) n n) n xs) : ∃ cur : List Value, cur.length = n ∧ w1.heap[w.heap.size]? = some (.cells cur.toArray 5 (0, 0)) := by
  rcases hown.2 with ⟨h, _⟩ | ⟨g, cap, cur, h, _, hg, _, _, hcs, _⟩
  · simp at h
  · simp only [Value.slice.injEq, Option.some.injEq, Addr.mk.injEq, and_true, true_and] at h
    obtain ⟨rfl, rfl⟩ := h
    exact ⟨cur.toList, by simpa using hcs, by simpa using hg⟩
/-- The cells of a slice of bytes, as a source. -/
theorem src_cells {w w1 : World} {b off n : Nat} {zs : List Int} (hl : zs.length = n) (hB : Bytes w (some ⟨b, off, none⟩) n zs) (hb : Below w.heap.size w w1) :
    ∀ j v, (zs.map (Value.int .u8))[j]? = some v → w1.cell? ((⟨b, off, none⟩ : Addr).add j) = some v := by
  intro j v hj
  have hjl : j < zs.length := by
    have := (List.getElem?_eq_some_iff.1 hj).1
    simpa using this
  obtain ⟨b', off', e, hc⟩ := hB j (by omega)
  simp only [Option.some.injEq, Addr.mk.injEq, and_true] at e
  obtain ⟨rfl, rfl⟩ := e
  rw [Addr.add_lit, hb.cell (p := ⟨b, off + j, none⟩) (World.block_lt_of_cell? _ _ hc), hc]
  simp [hjl] at hj ⊢
  exact hj
theorem row_bytes {w : World} {g n : Nat} {zs : List Int} {cur : List Value} (hl : zs.length = n) (hc : cur.length = n) (h : w.heap[g]? = some (.cells (splice cur 0 (zs.map (Value.int .u8))).toArray 5 (0, 0))) : Bytes w (some ⟨g, 0, none⟩) n zs := by
  intro j hj
  have hjl : j < zs.length := by omega
  refine ⟨g, 0, rfl, ?_⟩
  rw [Nat.zero_add, cell_of_row _ _ _ _ _ _ h]
  simp only [splice, List.take_zero, List.nil_append, List.getElem?_toArray]
  rw [List.getElem?_append_left (by simpa using hjl)]
  simp [hjl]

/-- From what the row's step hands over to 'Bytes', the list cut to the slice's own length. -/
theorem bytes_of {w : World} {x : Addr} {zs : List Int} {n : Nat} (hl : n ≤ zs.length) (h : ∀ i, i < zs.length → w.cell? (x.add i) = some (.int .u8 (zs.getD i 0))) : Bytes w (some x) n (zs.take n) := by
  intro k hk
  have h1 := h k (by omega)
  obtain ⟨b, off, spot⟩ := x
  have hs : spot = none := by simpa [Addr.add] using World.cell?_spot (h 0 (by omega))
  subst hs
  refine ⟨b, off, rfl, ?_⟩
  rw [Addr.add_lit] at h1
  rw [h1]
  simp [hk]

theorem law1_in (b off n c i : Nat) (zs : List Int) (w : World) (hn : n ≤ 1048576) (hl : zs.length = n) (hi : i < n) (hB : Bytes w (some ⟨b, off, none⟩) n zs) :
    Calls Try.prog 3 #[.slice (some ⟨b, off, none⟩) n c, .int .i64 i] w fun e w' => e = .returned (.bool true) ∧ Below w.heap.size w w' := by
  have HL : Hid (zs.length = n) := hl
  clear hl
  obtain ⟨i0, hi0, hz0, hz1, hz2⟩ := info_parts Try.info5
  have hsz : (Try.prog.info? 5).map (·.size) = some 1 := by rw [hi0]; simp [hz1]
  have hm : n ≤ maxLen := by unfold maxLen; omega
  have hn2 : n ≤ 2000000 := by omega
  go_enter Try.func3, Try.ntmps3
  go_upto_region 9 with (first
    | (go_at_call 9; refine (bound_yes _ _ _ _ _ hn).mono ?_; rintro e w' ⟨rfl, rfl⟩)
    | (at_make; refine wpList_make_full _ rfl _ _ 22 rfl w'.heap.size 5 i0 (.int .u8 0) 1 Try.underlying22 hi0 hz0 hz1 _ _ _ _ n rfl rfl rfl rfl (by rw [hz2]; omega) hm (Nat.le_refl _) ?_; intro w1 hown hgrow))
  have hb1 : Below w'.heap.size w' w1 := (Below.refl _ _).grown hgrow (Nat.le_refl _) (by intro k hk; cases hk)
  obtain ⟨cur, hcl, hrow⟩ := made_row hown
  have HC : Hid (cur.length = n) := hcl
  have HR : Hid (w1.heap[w'.heap.size]? = some (.cells cur.toArray 5 (0, 0))) := hrow
  have hsrc := src_cells HL.out hB hb1
  obtain ⟨cs, ecs⟩ : ∃ cs, cs = zs.map (Value.int .u8) := ⟨_, rfl⟩
  rw [← ecs] at hsrc
  have HS : Hid (∀ j v, cs[j]? = some v → w1.cell? ((⟨b, off, none⟩ : Addr).add j) = some v) := hsrc
  have HN : Hid (cs.length = n) := by show _ = _; rw [ecs, List.length_map, HL.out]
  have H1 : Hid (∀ v ∈ cs, v.oneCell' = true) := by show ∀ v ∈ cs, _; rw [ecs]; exact ints_oneCell .u8 zs
  have HE : Hid (cs = zs.map (Value.int .u8)) := ecs
  clear hown hgrow hcl hrow hsrc ecs hB
  go_wp2_with (first
    | (refine wpList_copy_splice rfl (.tmp 26) (.tmp 27) 22 22 rfl 5 Try.underlying22 hsz _ _ n n n c rfl rfl w'.heap.size 0 cur 5 HR.out cs (by rw [HN.out]; simp) (fun _ => ⟨rfl, _, rfl, HS.out⟩) (by rw [HN.out, HC.out]; omega) H1.out w'.heap.size w' hb1 (Nat.le_refl _) ?_; intro w2 HG2 hb2)
    | (go_at_call 10; refine (zzValidNumber_any _ _ _ _ _ zs _ hn2 HL.out hi (row_bytes HL.out HC.out (by have := HG2.out; rw [HE.out] at this; exact this))).mono ?_; rintro e w3 ⟨rfl, rfl⟩)
    | (go_at_call 11; refine (numModel_any _ _ _ _ zs _ hn2 HL.out (by omega) (row_bytes HL.out HC.out (by have := HG2.out; rw [HE.out] at this; exact this))).mono ?_; rintro e w4 ⟨rfl, rfl⟩))
  go_ret
  exact ⟨ret_bool' (by rw [run0]; simp), hb2⟩
end Go.Proofs.Qxb6605386a
