/-
  Seat b6605373a: FnUnicodeEscapeRoundTrip (4).
-/
import Derived.Test.Qxb6605373aEscape
namespace Go.Proofs.Qxb6605373a
open Go.ChangeShapes Go.WideShapes Go.ChangeAt Go.RowKit

theorem bound2_yes (a0 a1 : Int) (ao : Option Addr) (n c : Nat) (w : World) (h : n ≤ 1048576) :
    Calls Try.prog 9 #[.int .u16 a0, .int .u8 a1, .slice ao n c] w fun e w' => e = .returned (.bool true) ∧ w' = w := by
  go_enter Try.func9, Try.ntmps9
  go_wp2
  go_ret
  exact ⟨rfl, rfl⟩
theorem bound2_no (a0 a1 : Int) (ao : Option Addr) (n c : Nat) (w : World) (h : 1048576 < n) :
    Calls Try.prog 9 #[.int .u16 a0, .int .u8 a1, .slice ao n c] w fun e w' => e = .returned (.bool false) ∧ w' = w := by
  go_enter Try.func9, Try.ntmps9
  go_wp2
  go_ret
  exact ⟨rfl, rfl⟩

theorem law2_long (a0 a1 : Int) (ao : Option Addr) (n c : Nat) (w : World) (h : 1048576 < n) :
    Calls Try.prog 4 #[.int .u16 a0, .int .u8 a1, .slice ao n c] w fun e w' => e = .returned (.bool true) ∧ Below w.heap.size w w' := by
  go_enter Try.func4, Try.ntmps4
  go_wp2_with (go_at_call 9; refine (bound2_no _ _ _ _ _ _ h).mono ?_; rintro e w' ⟨rfl, rfl⟩)
  go_ret
  exact ⟨rfl, Below.refl _ _⟩

theorem bytes_kept {w w' : World} {B : Nat} {ao : Option Addr} {n : Nat} {zs : List Int} (h : Bytes w ao n zs) (hB : w.heap.size ≤ B) (hb : Below B w w') : Bytes w' ao n zs := by
  intro k hk
  obtain ⟨b, off, e, hc⟩ := h k hk
  refine ⟨b, off, e, ?_⟩
  rw [hb.cell (p := ⟨b, off + k, none⟩) (Nat.lt_of_lt_of_le (World.block_lt_of_cell? _ _ hc) hB), hc]

theorem lit_cells (w : World) (xs : List Value) (t : TypeId) : ∀ j u, xs[j]? = some u → (w.alloc (.cells xs.toArray t)).cell? ((⟨w.heap.size, 0, none⟩ : Addr).add j) = some u := by
  intro j u hj
  rw [Addr.add_lit, Nat.zero_add, cell_of_row _ _ _ xs.toArray t (0, 0) (heap_alloc_new w _)]
  simpa using hj

/-- The buffer under way: its row is the first block behind w1; nothing older has turned. -/
def Buf (cap : Nat) (w1 wr : World) (k : Nat) (L : List Int) : Prop :=
  wr.ownsRow w1.heap.size 5 1 (.slice (some ⟨w1.heap.size, 0, none⟩) k cap) k (L.map (Value.int .u8)) ∧ Below w1.heap.size w1 wr ∧ w1.heap.size ≤ wr.heap.size

theorem Buf.step {cap : Nat} {w1 wr w' : World} {k m : Nat} {L : List Int} (h : Buf cap w1 wr k L) (o : Obj) (M : List Int)
    (hown : w'.ownsRow w1.heap.size 5 1 (.slice (some ⟨w1.heap.size, 0, none⟩) m cap) m (L.map (Value.int .u8) ++ M.map (Value.int .u8))) (hg : (wr.alloc o).grownBy w' (some w1.heap.size)) : Buf cap w1 w' m (L ++ M) := by
  obtain ⟨h1, h2, h3⟩ := h
  refine ⟨by rw [List.map_append]; exact hown, (h2.alloc h3 o).grown hg (by simp; omega) (by intro k hk; cases hk; exact Nat.le_refl _), ?_⟩
  have := hg.size
  simp at this
  omega

theorem ch_low (k m : Nat) (h16 : k < 16) (h : k < 10 ∧ m = 48 + k ∨ 10 ≤ k ∧ m = 87 + k) : isHx m = true ∧ hx m = k := by
  rw [isHx_iff]
  unfold hx
  refine ⟨by omega, ?_⟩
  split
  · omega
  · split <;> omega
theorem ch_up (k m : Nat) (h16 : k < 16) (h : k < 10 ∧ m = 48 + k ∨ 10 ≤ k ∧ m = 55 + k) : isHx m = true ∧ hx m = k := by
  rw [isHx_iff]
  unfold hx
  refine ⟨by omega, ?_⟩
  split
  · omega
  · split <;> omega
theorem dig_step {ds : List Int} {m : Nat} {q q' : Int} (x d : Nat) (HD : ds.length = m ∧ (∀ c ∈ ds, isHx c = true) ∧ val ds = q) (h : isHx x = true ∧ hx x = d) (hq : q * 16 + d = q') :
    (ds ++ [(x : Int)]).length = m + 1 ∧ (∀ c ∈ ds ++ [(x : Int)], isHx c = true) ∧ val (ds ++ [(x : Int)]) = q' := by
  obtain ⟨h1, h2, h3⟩ := HD
  refine ⟨by simp [h1], ?_, by rw [val_snoc, h3, h.2, hq]⟩
  intro c hc
  rw [List.mem_append, List.mem_singleton] at hc
  rcases hc with hc | rfl
  · exact h2 c hc
  · exact h.1
theorem nib (x : Int) (h0 : 0 ≤ x) (h1 : x ≤ 65535) : ∃ d : Nat, bits .and .u16 x 15 = (d : Int) ∧ d < 16 ∧ Hid ((d : Int) = x % 16) := by
  have := bits_mask .u16 16 (by decide) (fun n h h' => by rw [IntKind.wrap_u16]; omega) 4 (by decide) x h0 (by omega)
  refine ⟨(x % 16).toNat, ?_, by omega, by show ((x % 16).toNat : Int) = _; omega⟩
  have e : bits .and .u16 x 15 = x % 16 := this
  rw [e]
  omega

theorem Buf.bytes {cap : Nat} {w1 wr : World} {k : Nat} {L : List Int} (h : Buf cap w1 wr k L) : Bytes wr (some ⟨w1.heap.size, 0, none⟩) k L := by
  intro j hj
  have hlen : L.length = k := by simpa using h.1.1
  have h1 : j < L.length := by omega
  refine ⟨_, _, rfl, ?_⟩
  rw [Nat.zero_add, h.1.cellAt j (by omega)]
  simp [h1]
theorem hex_at {ds : List Int} (ts : List Int) (h4 : ds.length = 4) (h : ∀ c ∈ ds, isHx c = true) (k : Nat) (hk : k < 4) : isHx ((ds ++ ts)[k]?.getD 0) = true := by
  rw [List.getElem?_append_left (by omega), List.getElem?_eq_getElem (by omega)]
  exact h _ (List.getElem_mem _)
theorem back16 (a0 : Int) (h0 : 0 ≤ a0) (h1 : a0 ≤ 65535) (ds ts : List Int) (h4 : ds.length = 4) (hv : val ds = a0 / 16 ^ (4 - 4)) : wrap32 (val ((ds ++ ts).take 4)) = a0 := by
  rw [← h4, List.take_left, hv]
  simp
  unfold wrap32
  omega
theorem ret_bool {b : Bool} (h : b = true) : Ending.returned (.bool b) = .returned (.bool true) := by rw [h]

theorem law2_short (a0 a1 : Int) (ao : Option Addr) (n c : Nat) (zs : List Int) (w : World) (h0 : 0 ≤ a0) (h1 : a0 ≤ 65535) (_h2 : 0 ≤ a1) (_h3 : a1 ≤ 255) (hn : n ≤ 1048576) (hl : n ≤ zs.length) (hnil : ao = none → n = 0 ∧ c = 0) (hB : Bytes w ao n zs) :
    Calls Try.prog 4 #[.int .u16 a0, .int .u8 a1, .slice ao n c] w fun e w' => e = .returned (.bool true) ∧ Below w.heap.size w w' := by
  obtain ⟨i0, hi, hz0, hz1, hz2⟩ := info_parts Try.info5
  go_enter Try.func4, Try.ntmps4
  go_wp2_with (first
    | (go_at_call 9; refine (bound2_yes _ _ _ _ _ _ hn).mono ?_; rintro e w' ⟨rfl, rfl⟩)
    | (go_at_call 6; refine (copy_any _ _ _ zs _ hn hl hnil hB).mono ?_; rintro e w1 ⟨ao1, c1, rfl, hB1, hb⟩; clear hnil hB)
    | (at_make; refine wpList_make_own _ rfl _ _ 22 rfl w1.heap.size 5 i0 (.int .u8 0) 1 Try.underlying22 hi hz0 hz1 _ _ _ (6 + n) rfl rfl (by omega) (by rw [hz2]; omega) (by unfold maxLen; omega) (Nat.le_refl _) ?_; intro w2 hown2 hgrow2)
    | (at_builtin; refine wpList_append_fits _ rfl (.tmp 25) (.tmp 26) 22 rfl w1.heap.size 5 i0 1 Try.underlying22 hi hz1 w1.heap.size 0 (6 + n) [] rfl (hown2.alloc _) ⟨w2.heap.size, 0, none⟩ 2 2 [.int .u8 92, .int .u8 117] rfl rfl (lit_cells w2 [.int .u8 92, .int .u8 117] 5) (ints_oneCell .u8 [92, 117]) (by omega) ?_; intro w3 hown3 hgrow3))
  have hbuf : Buf (6 + n) w1 w3 2 [92, 117] := by
    have h2 : Buf (6 + n) w1 w2 0 [] := ⟨hown2, (Below.refl _ _).grown hgrow2 (Nat.le_refl _) (by intro k hk; cases hk), hgrow2.size⟩
    exact h2.step _ [92, 117] hown3 hgrow3
  clear hown2 hgrow2 hown3 hgrow3
  go_loopw [7, 8] (fun v i wr => ∃ m : Nat, m ≤ 4 ∧ i = .int .i64 (3 - (m : Int)) ∧ v = .slice (some ⟨w1.heap.size, 0, none⟩) (2 + m) (6 + n) ∧ ∃ ds : List Int, Hid (ds.length = m ∧ (∀ c ∈ ds, isHx c = true) ∧ val ds = a0 / 16 ^ (4 - m)) ∧ Buf (6 + n) w1 wr (2 + m) (92 :: 117 :: ds)) (fun _ i _ => (intOf i + 1).toNat)
  case atStart => exact ⟨0, by omega, rfl, rfl, [], ⟨rfl, (by simp), (by show (0 : Int) = a0 / 65536; omega)⟩, hbuf⟩
  case round =>
    clear hbuf
    obtain ⟨m, hm, rfl, rfl, ds, HD, hbuf⟩ := hrel
    have hm' : m = 0 ∨ m = 1 ∨ m = 2 ∨ m = 3 ∨ m = 4 := by omega
    clear hm
    have hown := hbuf.1
    rcases hm' with rfl | rfl | rfl | rfl | rfl
    · obtain ⟨d, hd, hd16, HQ⟩ := nib (a0 / 4096) (by omega) (by omega)
      cases hbit : (bits .and .u8 (a1 / 8) 1 == 1) with
      | true =>
        obtain ⟨x, ex, bx⟩ := upAt d hd16
        have HS : Hid ((ds ++ [(x : Int)]).length = 0 + 1 ∧ (∀ c ∈ ds ++ [(x : Int)], isHx c = true) ∧ val (ds ++ [(x : Int)]) = a0 / 16 ^ (4 - (0 + 1))) := dig_step x d HD.out (ch_up d x hd16 bx) (by have := HQ.out; simp; omega)
        clear HD HQ bx
        go_wp2_with (at_builtin; refine wpList_append_fits _ rfl (.tmp 44) (.tmp 47) 22 rfl w1.heap.size 5 i0 1 Try.underlying22 hi hz1 w1.heap.size (2 + 0) (6 + n) _ rfl (hown.alloc _) ⟨wr.heap.size, 0, none⟩ 1 1 [.int .u8 x] rfl rfl (lit_cells wr [.int .u8 x] 5) (ints_oneCell .u8 [(x : Int)]) (by omega) ?_; intro w4 hown4 hgrow4)
        have hbuf4 := hbuf.step _ [(x : Int)] hown4 hgrow4
        clear hbuf hown4 hgrow4
        go_roundw
        case rel => exact ⟨0 + 1, by omega, by go_num, rfl, _, HS, hbuf4⟩
        case measure => simp [intOf]
      | false =>
        obtain ⟨x, ex, bx⟩ := lowAt d hd16
        have HS : Hid ((ds ++ [(x : Int)]).length = 0 + 1 ∧ (∀ c ∈ ds ++ [(x : Int)], isHx c = true) ∧ val (ds ++ [(x : Int)]) = a0 / 16 ^ (4 - (0 + 1))) := dig_step x d HD.out (ch_low d x hd16 bx) (by have := HQ.out; simp; omega)
        clear HD HQ bx
        go_wp2_with (at_builtin; refine wpList_append_fits _ rfl (.tmp 49) (.tmp 52) 22 rfl w1.heap.size 5 i0 1 Try.underlying22 hi hz1 w1.heap.size (2 + 0) (6 + n) _ rfl (hown.alloc _) ⟨wr.heap.size, 0, none⟩ 1 1 [.int .u8 x] rfl rfl (lit_cells wr [.int .u8 x] 5) (ints_oneCell .u8 [(x : Int)]) (by omega) ?_; intro w4 hown4 hgrow4)
        have hbuf4 := hbuf.step _ [(x : Int)] hown4 hgrow4
        clear hbuf hown4 hgrow4
        go_roundw
        case rel => exact ⟨0 + 1, by omega, by go_num, rfl, _, HS, hbuf4⟩
        case measure => simp [intOf]
    · obtain ⟨d, hd, hd16, HQ⟩ := nib (a0 / 256) (by omega) (by omega)
      cases hbit : (bits .and .u8 (a1 / 4) 1 == 1) with
      | true =>
        obtain ⟨x, ex, bx⟩ := upAt d hd16
        have HS : Hid ((ds ++ [(x : Int)]).length = 1 + 1 ∧ (∀ c ∈ ds ++ [(x : Int)], isHx c = true) ∧ val (ds ++ [(x : Int)]) = a0 / 16 ^ (4 - (1 + 1))) := dig_step x d HD.out (ch_up d x hd16 bx) (by have := HQ.out; simp; omega)
        clear HD HQ bx
        go_wp2_with (at_builtin; refine wpList_append_fits _ rfl (.tmp 44) (.tmp 47) 22 rfl w1.heap.size 5 i0 1 Try.underlying22 hi hz1 w1.heap.size (2 + 1) (6 + n) _ rfl (hown.alloc _) ⟨wr.heap.size, 0, none⟩ 1 1 [.int .u8 x] rfl rfl (lit_cells wr [.int .u8 x] 5) (ints_oneCell .u8 [(x : Int)]) (by omega) ?_; intro w4 hown4 hgrow4)
        have hbuf4 := hbuf.step _ [(x : Int)] hown4 hgrow4
        clear hbuf hown4 hgrow4
        go_roundw
        case rel => exact ⟨1 + 1, by omega, by go_num, rfl, _, HS, hbuf4⟩
        case measure => simp [intOf]
      | false =>
        obtain ⟨x, ex, bx⟩ := lowAt d hd16
        have HS : Hid ((ds ++ [(x : Int)]).length = 1 + 1 ∧ (∀ c ∈ ds ++ [(x : Int)], isHx c = true) ∧ val (ds ++ [(x : Int)]) = a0 / 16 ^ (4 - (1 + 1))) := dig_step x d HD.out (ch_low d x hd16 bx) (by have := HQ.out; simp; omega)
        clear HD HQ bx
        go_wp2_with (at_builtin; refine wpList_append_fits _ rfl (.tmp 49) (.tmp 52) 22 rfl w1.heap.size 5 i0 1 Try.underlying22 hi hz1 w1.heap.size (2 + 1) (6 + n) _ rfl (hown.alloc _) ⟨wr.heap.size, 0, none⟩ 1 1 [.int .u8 x] rfl rfl (lit_cells wr [.int .u8 x] 5) (ints_oneCell .u8 [(x : Int)]) (by omega) ?_; intro w4 hown4 hgrow4)
        have hbuf4 := hbuf.step _ [(x : Int)] hown4 hgrow4
        clear hbuf hown4 hgrow4
        go_roundw
        case rel => exact ⟨1 + 1, by omega, by go_num, rfl, _, HS, hbuf4⟩
        case measure => simp [intOf]
    · obtain ⟨d, hd, hd16, HQ⟩ := nib (a0 / 16) (by omega) (by omega)
      cases hbit : (bits .and .u8 (a1 / 2) 1 == 1) with
      | true =>
        obtain ⟨x, ex, bx⟩ := upAt d hd16
        have HS : Hid ((ds ++ [(x : Int)]).length = 2 + 1 ∧ (∀ c ∈ ds ++ [(x : Int)], isHx c = true) ∧ val (ds ++ [(x : Int)]) = a0 / 16 ^ (4 - (2 + 1))) := dig_step x d HD.out (ch_up d x hd16 bx) (by have := HQ.out; simp; omega)
        clear HD HQ bx
        go_wp2_with (at_builtin; refine wpList_append_fits _ rfl (.tmp 44) (.tmp 47) 22 rfl w1.heap.size 5 i0 1 Try.underlying22 hi hz1 w1.heap.size (2 + 2) (6 + n) _ rfl (hown.alloc _) ⟨wr.heap.size, 0, none⟩ 1 1 [.int .u8 x] rfl rfl (lit_cells wr [.int .u8 x] 5) (ints_oneCell .u8 [(x : Int)]) (by omega) ?_; intro w4 hown4 hgrow4)
        have hbuf4 := hbuf.step _ [(x : Int)] hown4 hgrow4
        clear hbuf hown4 hgrow4
        go_roundw
        case rel => exact ⟨2 + 1, by omega, by go_num, rfl, _, HS, hbuf4⟩
        case measure => simp [intOf]
      | false =>
        obtain ⟨x, ex, bx⟩ := lowAt d hd16
        have HS : Hid ((ds ++ [(x : Int)]).length = 2 + 1 ∧ (∀ c ∈ ds ++ [(x : Int)], isHx c = true) ∧ val (ds ++ [(x : Int)]) = a0 / 16 ^ (4 - (2 + 1))) := dig_step x d HD.out (ch_low d x hd16 bx) (by have := HQ.out; simp; omega)
        clear HD HQ bx
        go_wp2_with (at_builtin; refine wpList_append_fits _ rfl (.tmp 49) (.tmp 52) 22 rfl w1.heap.size 5 i0 1 Try.underlying22 hi hz1 w1.heap.size (2 + 2) (6 + n) _ rfl (hown.alloc _) ⟨wr.heap.size, 0, none⟩ 1 1 [.int .u8 x] rfl rfl (lit_cells wr [.int .u8 x] 5) (ints_oneCell .u8 [(x : Int)]) (by omega) ?_; intro w4 hown4 hgrow4)
        have hbuf4 := hbuf.step _ [(x : Int)] hown4 hgrow4
        clear hbuf hown4 hgrow4
        go_roundw
        case rel => exact ⟨2 + 1, by omega, by go_num, rfl, _, HS, hbuf4⟩
        case measure => simp [intOf]
    · obtain ⟨d, hd, hd16, HQ⟩ := nib (a0) (by omega) (by omega)
      cases hbit : (bits .and .u8 (a1) 1 == 1) with
      | true =>
        obtain ⟨x, ex, bx⟩ := upAt d hd16
        have HS : Hid ((ds ++ [(x : Int)]).length = 3 + 1 ∧ (∀ c ∈ ds ++ [(x : Int)], isHx c = true) ∧ val (ds ++ [(x : Int)]) = a0 / 16 ^ (4 - (3 + 1))) := dig_step x d HD.out (ch_up d x hd16 bx) (by have := HQ.out; simp; omega)
        clear HD HQ bx
        go_wp2_with (at_builtin; refine wpList_append_fits _ rfl (.tmp 44) (.tmp 47) 22 rfl w1.heap.size 5 i0 1 Try.underlying22 hi hz1 w1.heap.size (2 + 3) (6 + n) _ rfl (hown.alloc _) ⟨wr.heap.size, 0, none⟩ 1 1 [.int .u8 x] rfl rfl (lit_cells wr [.int .u8 x] 5) (ints_oneCell .u8 [(x : Int)]) (by omega) ?_; intro w4 hown4 hgrow4)
        have hbuf4 := hbuf.step _ [(x : Int)] hown4 hgrow4
        clear hbuf hown4 hgrow4
        go_roundw
        case rel => exact ⟨3 + 1, by omega, by go_num, rfl, _, HS, hbuf4⟩
        case measure => simp [intOf]
      | false =>
        obtain ⟨x, ex, bx⟩ := lowAt d hd16
        have HS : Hid ((ds ++ [(x : Int)]).length = 3 + 1 ∧ (∀ c ∈ ds ++ [(x : Int)], isHx c = true) ∧ val (ds ++ [(x : Int)]) = a0 / 16 ^ (4 - (3 + 1))) := dig_step x d HD.out (ch_low d x hd16 bx) (by have := HQ.out; simp; omega)
        clear HD HQ bx
        go_wp2_with (at_builtin; refine wpList_append_fits _ rfl (.tmp 49) (.tmp 52) 22 rfl w1.heap.size 5 i0 1 Try.underlying22 hi hz1 w1.heap.size (2 + 3) (6 + n) _ rfl (hown.alloc _) ⟨wr.heap.size, 0, none⟩ 1 1 [.int .u8 x] rfl rfl (lit_cells wr [.int .u8 x] 5) (ints_oneCell .u8 [(x : Int)]) (by omega) ?_; intro w4 hown4 hgrow4)
        have hbuf4 := hbuf.step _ [(x : Int)] hown4 hgrow4
        clear hbuf hown4 hgrow4
        go_roundw
        case rel => exact ⟨3 + 1, by omega, by go_num, rfl, _, HS, hbuf4⟩
        case measure => simp [intOf]
    · obtain ⟨wo, rfl⟩ : ∃ wo : World, wo = wr := ⟨_, rfl⟩
      rw [show (3 - ((4 : Nat) : Int)) = -1 from rfl, show 2 + 4 = 6 from rfl]
      go_wp2
      go_loopw [7, 10] (fun v i wr => ∃ k : Nat, k ≤ n ∧ i = .int .i64 k ∧ v = .slice (some ⟨w1.heap.size, 0, none⟩) (6 + k) (6 + n) ∧ Buf (6 + n) w1 wr (6 + k) (92 :: 117 :: (ds ++ zs.take k))) (fun _ i _ => n - (intOf i).toNat)
      case atStart => exact ⟨0, Nat.zero_le _, rfl, rfl, by simpa using hbuf⟩
      case round =>
        clear hbuf hown
        obtain ⟨k, hk, rfl, rfl, hbuf⟩ := hrel
        by_cases hlt : k < n
        · obtain ⟨b, off, rfl, hc⟩ := bytes_kept hB1 (Nat.le_refl _) hbuf.2.1 k hlt
          have hown := hbuf.1
          have HT : Hid (zs.take (k + 1) = zs.take k ++ [zs[k]?.getD 0]) := take_snoc zs k (by omega)
          have hc1 : wr.cell? ⟨b, off + k, none⟩ = some (.int .u8 (zs[k]?.getD 0)) := by rw [hc]; simp
          clear hc
          go_wp2_with (at_builtin; refine wpList_append_fits _ rfl (.tmp 60) (.tmp 65) 22 rfl w1.heap.size 5 i0 1 Try.underlying22 hi hz1 w1.heap.size (6 + k) (6 + n) _ rfl (hown.alloc _) ⟨wr.heap.size, 0, none⟩ 1 1 [.int .u8 (zs[k]?.getD 0)] rfl rfl (lit_cells wr [.int .u8 (zs[k]?.getD 0)] 5) (ints_oneCell .u8 [zs[k]?.getD 0]) (by omega) ?_; intro w4 hown4 hgrow4)
          have hbuf4 := hbuf.step _ [zs[k]?.getD 0] hown4 hgrow4
          clear hbuf hown4 hgrow4
          go_roundw
          case rel => exact ⟨k + 1, by omega, by go_num, rfl, by rw [HT.out, ← Nat.add_assoc]; simpa using hbuf4⟩
          case measure => simp [intOf]; omega
        · obtain rfl : k = n := by omega
          have hB2 := hbuf.bytes
          have hB3 := bytes_cut hB2 2 4 (by omega)
          have hz := hex_at (zs.take k) HD.out.1 HD.out.2.1
          have HW : Hid (wrap32 (val ((ds ++ zs.take k).take 4)) = a0) := back16 a0 h0 h1 ds _ HD.out.1 HD.out.2.2
          have hl4 : 4 ≤ (ds ++ zs.take k).length := by rw [List.length_append, HD.out.1]; omega
          have hbb : Below w'.heap.size w' wr := hb.trans (hbuf.2.1.mono hb.size)
          clear hbuf HD hb hB1
          go_wp2_with (first
            | (go_at_call 10; refine (zzEscapeLength_six _ _ _ _ _ _ (by omega) (by omega) (by omega) hB2 rfl hz).mono ?_; rintro e w' ⟨rfl, rfl⟩)
            | (go_at_call 8; refine (zzHexRune_any _ _ _ _ _ (by omega) hl4 hB3 hz).mono ?_; rintro e w' ⟨rfl, rfl⟩))
          go_ret
          exact ⟨ret_bool (by rw [HW.out]; simp), hbb⟩
end Go.Proofs.Qxb6605373a
