/-
  Seat b6605373a: the plain mathematics: hexadecimal digits and their positional value. No Go text in sight.
-/
import Derived.WalkKit
import Derived.ProofKit
namespace Go.Proofs.Qxb6605373a
open Go.RowKit

def isHx (c : Int) : Bool := decide ((48 ≤ c ∧ c ≤ 57) ∨ (65 ≤ c ∧ c ≤ 70) ∨ (97 ≤ c ∧ c ≤ 102))
def hx (c : Int) : Int := if c ≤ 57 then c - 48 else if c ≤ 70 then c - 55 else c - 87
theorem isHx_iff (c : Int) : isHx c = true ↔ (48 ≤ c ∧ c ≤ 57) ∨ (65 ≤ c ∧ c ≤ 70) ∨ (97 ≤ c ∧ c ≤ 102) := by simp [isHx]
theorem isHx_no (c : Int) : isHx c = false ↔ ¬ ((48 ≤ c ∧ c ≤ 57) ∨ (65 ≤ c ∧ c ≤ 70) ∨ (97 ≤ c ∧ c ≤ 102)) := by
  unfold isHx; rw [decide_eq_false_iff_not]
theorem hx_bd {c : Int} (h : isHx c = true) : 0 ≤ hx c ∧ hx c ≤ 15 := by
  rw [isHx_iff] at h
  unfold hx
  split
  · omega
  · split <;> omega

def val (l : List Int) : Int := l.foldl (fun a c => a * 16 + hx c) 0
theorem val_snoc (l : List Int) (c : Int) : val (l ++ [c]) = val l * 16 + hx c := by simp [val, List.foldl_append]
theorem foldl_from (l : List Int) : ∀ a : Int, l.foldl (fun a c => a * 16 + hx c) a = a * 16 ^ l.length + val l := by
  induction l with
  | nil => intro a; simp [val]
  | cons c l ih =>
    intro a
    have e : val (c :: l) = hx c * 16 ^ l.length + val l := by
      show l.foldl _ (0 * 16 + hx c) = _
      rw [ih]
      simp
    rw [e, List.foldl_cons, ih, List.length_cons, Int.pow_succ]
    have : (a * 16 + hx c) * 16 ^ l.length = a * (16 ^ l.length * 16) + hx c * 16 ^ l.length := by
      rw [Int.add_mul, Int.mul_assoc, Int.mul_comm 16]
    omega
theorem val_cons (c : Int) (l : List Int) : val (c :: l) = hx c * 16 ^ l.length + val l := by
  show l.foldl _ (0 * 16 + hx c) = _
  rw [foldl_from]
  simp
theorem val_append (l m : List Int) : val (l ++ m) = val l * 16 ^ m.length + val m := by
  unfold val
  rw [List.foldl_append]
  exact foldl_from m _
theorem val_bd (l : List Int) (h : ∀ c ∈ l, isHx c = true) : 0 ≤ val l ∧ val l < 16 ^ l.length := by
  induction l with
  | nil => simp [val]
  | cons c l ih =>
    have h1 := hx_bd (h c (by simp))
    have h2 := ih fun x hx => h x (by simp [hx])
    rw [val_cons, List.length_cons, Int.pow_succ]
    have hp : (0 : Int) < 16 ^ l.length := Int.pow_pos (by decide)
    have e1 : 0 ≤ hx c * 16 ^ l.length := Int.mul_nonneg h1.1 (by omega)
    have e2 : hx c * 16 ^ l.length ≤ 15 * 16 ^ l.length := Int.mul_le_mul_of_nonneg_right h1.2 (by omega)
    omega

/-- 'x | d' where the low four bits of x are clear, in int32. -/
theorem or_i32 (x d : Int) (hx : x % 16 = 0) (h0 : 0 ≤ d) (h1 : d ≤ 15) : bits .or .i32 (wrap32 x) d = wrap32 (x + d) := by
  show IntKind.i32.wrap ((BitVec.ofInt 32 (wrap32 x) ||| BitVec.ofInt 32 d).toNat : Int) = _
  rw [BitVec.toNat_or, BitVec.toNat_ofInt, BitVec.toNat_ofInt]
  have e1 : (wrap32 x % ((2 ^ 32 : Nat) : Int)).toNat = 2 ^ 4 * (((x % 4294967296) / 16).toNat) := by unfold wrap32; omega
  have e2 : (d % ((2 ^ 32 : Nat) : Int)).toNat = d.toNat := by omega
  rw [e1, e2, ← Nat.two_pow_add_eq_or_of_lt (show d.toNat < 2 ^ 4 by omega), IntKind.wrap_i32]
  unfold wrap32
  omega
theorem step_i32 (v d : Int) (h0 : 0 ≤ d) (h1 : d ≤ 15) : bits .or .i32 (wrap32 (wrap32 v * 16)) d = wrap32 (v * 16 + d) := by
  rw [or_i32 _ _ (by omega) h0 h1]
  unfold wrap32
  omega
/-- 'x | y' in uint32, x below 2^i and y a multiple of it. -/
theorem or_u32 (i : Nat) (x y : Int) (hx0 : 0 ≤ x) (hx : x < 2 ^ i) (hy : y % 2 ^ i = 0) (hy0 : 0 ≤ y) (hs : x + y < 4294967296) : bits .or .u32 x y = x + y := by
  obtain ⟨X, rfl⟩ := Int.eq_ofNat_of_zero_le hx0
  obtain ⟨Y, rfl⟩ := Int.eq_ofNat_of_zero_le hy0
  show IntKind.u32.wrap ((BitVec.ofInt 32 (X : Int) ||| BitVec.ofInt 32 (Y : Int)).toNat : Int) = _
  rw [BitVec.toNat_or, BitVec.toNat_ofInt, BitVec.toNat_ofInt]
  have hX : X < 2 ^ i := by
    have : (X : Int) < ((2 ^ i : Nat) : Int) := by rw [Int.natCast_pow]; exact hx
    omega
  have hY : Y % 2 ^ i = 0 := by
    have : ((Y % 2 ^ i : Nat) : Int) = 0 := by rw [Int.natCast_emod, Int.natCast_pow]; exact hy
    omega
  have e1 : ((X : Int) % ((2 ^ 32 : Nat) : Int)).toNat = X := by omega
  have e2 : ((Y : Int) % ((2 ^ 32 : Nat) : Int)).toNat = 2 ^ i * (Y / 2 ^ i) := by
    have := Nat.div_add_mod Y (2 ^ i)
    omega
  have e3 := Nat.two_pow_add_eq_or_of_lt hX (Y / 2 ^ i)
  have e4 := Nat.div_add_mod Y (2 ^ i)
  rw [e1, e2, Nat.or_comm, ← e3, IntKind.wrap_u32]
  omega

/-- One round of 'want |= d << uint(4*k)': a digit more from the right. -/
theorem step_u32 (zs : List Int) (k m : Nat) (x : Int) (h8 : m < 8) (hmk : m < k) (hl : k ≤ zs.length) (hh : ∀ j, j < k → isHx (zs[j]?.getD 0) = true) (e : x = val ((zs.take k).drop (k - m))) :
    bits .or .u32 x (hx (zs[k - 1 - m]?.getD 0) * 2 ^ (4 * m) % 4294967296) = val ((zs.take k).drop (k - (m + 1))) ∧
    0 ≤ val ((zs.take k).drop (k - (m + 1))) ∧ val ((zs.take k).drop (k - (m + 1))) ≤ 4294967295 := by
  have hlen : (zs.take k).length = k := by simp; omega
  have hd := hx_bd (hh (k - 1 - m) (by omega))
  have ec : (zs.take k).drop (k - (m + 1)) = zs[k - 1 - m]?.getD 0 :: (zs.take k).drop (k - m) := by
    rw [List.drop_eq_getElem_cons (by omega)]
    have e1 : k - (m + 1) + 1 = k - m := by omega
    have e2 : (zs.take k)[k - (m + 1)]'(by omega) = zs[k - 1 - m]?.getD 0 := by
      have e3 : k - (m + 1) = k - 1 - m := by omega
      have e4 : k - 1 - m < zs.length := by omega
      simp [e3, e4]
    rw [e1, e2]
  have hls : ((zs.take k).drop (k - m)).length = m := by simp; omega
  have hb := val_bd ((zs.take k).drop (k - m)) (by
    intro c hc
    obtain ⟨j, hj, rfl⟩ := List.mem_iff_getElem.1 hc
    have e4 : k - m + j < zs.length := by omega
    have := hh (k - m + j) (by omega)
    simpa [e4] using this)
  rw [hls, ← e] at hb
  rw [ec, val_cons, hls, ← e]
  clear e ec hls hlen
  have h8' : m = 0 ∨ m = 1 ∨ m = 2 ∨ m = 3 ∨ m = 4 ∨ m = 5 ∨ m = 6 ∨ m = 7 := by omega
  generalize hx (zs[k - 1 - m]?.getD 0) = d at *
  clear hh
  rcases h8' with rfl | rfl | rfl | rfl | rfl | rfl | rfl | rfl
  · rw [or_u32 0 _ _ hb.1 (by simpa using hb.2) (by omega) (by omega) (by simp at hb ⊢; omega)]; simp at hb ⊢; omega
  · rw [or_u32 4 _ _ hb.1 (by simpa using hb.2) (by omega) (by omega) (by simp at hb ⊢; omega)]; simp at hb ⊢; omega
  · rw [or_u32 8 _ _ hb.1 (by simpa using hb.2) (by omega) (by omega) (by simp at hb ⊢; omega)]; simp at hb ⊢; omega
  · rw [or_u32 12 _ _ hb.1 (by simpa using hb.2) (by omega) (by omega) (by simp at hb ⊢; omega)]; simp at hb ⊢; omega
  · rw [or_u32 16 _ _ hb.1 (by simpa using hb.2) (by omega) (by omega) (by simp at hb ⊢; omega)]; simp at hb ⊢; omega
  · rw [or_u32 20 _ _ hb.1 (by simpa using hb.2) (by omega) (by omega) (by simp at hb ⊢; omega)]; simp at hb ⊢; omega
  · rw [or_u32 24 _ _ hb.1 (by simpa using hb.2) (by omega) (by omega) (by simp at hb ⊢; omega)]; simp at hb ⊢; omega
  · rw [or_u32 28 _ _ hb.1 (by simpa using hb.2) (by omega) (by omega) (by simp at hb ⊢; omega)]; simp at hb ⊢; omega

/-- Only the last eight digits count, in 32 bits. -/
theorem last8 (zs : List Int) (n : Nat) (hl : n ≤ zs.length) (h8 : 8 ≤ n) : wrap32 (val (zs.take n)) = wrap32 (val ((zs.take n).drop (n - 8))) := by
  have e : val (zs.take n) = val ((zs.take n).take (n - 8)) * 16 ^ ((zs.take n).drop (n - 8)).length + val ((zs.take n).drop (n - 8)) := by
    rw [← val_append, List.take_append_drop]
  have hls : ((zs.take n).drop (n - 8)).length = 8 := by simp; omega
  rw [hls] at e
  generalize val (zs.take n) = a at *
  generalize val ((zs.take n).take (n - 8)) = b at *
  generalize val ((zs.take n).drop (n - 8)) = c at *
  subst e
  unfold wrap32
  omega
end Go.Proofs.Qxb6605373a
