/-
  Seat b6605386a: the plain mathematics: the automaton of a number, and the reader in stages. No Go text in sight.
-/
import Derived.WalkKit
namespace Go.Proofs.Qxb6605386a

def dig (c : Int) : Bool := decide (48 ≤ c ∧ c ≤ 57)
def isE (c : Int) : Bool := decide (c = 101 ∨ c = 69)
def sgn (c : Int) : Bool := decide (c = 43 ∨ c = 45)
theorem dig_iff (c : Int) : dig c = true ↔ 48 ≤ c ∧ c ≤ 57 := by simp [dig]
theorem dig_no (c : Int) : dig c = false ↔ ¬ (48 ≤ c ∧ c ≤ 57) := by unfold dig; rw [decide_eq_false_iff_not]

/-! ### The automaton -/
def step (st c : Int) : Int :=
  if st = 0 then (if c = 45 then 1 else if c = 48 then 2 else if dig c then 3 else -1)
  else if st = 1 then (if c = 48 then 2 else if dig c then 3 else -1)
  else if st = 2 then (if c = 46 then 4 else if isE c then 6 else -1)
  else if st = 3 then (if dig c then 3 else if c = 46 then 4 else if isE c then 6 else -1)
  else if st = 4 then (if dig c then 5 else -1)
  else if st = 5 then (if dig c then 5 else if isE c then 6 else -1)
  else if st = 6 then (if sgn c then 7 else if dig c then 8 else -1)
  else if st = 7 then (if dig c then 8 else -1)
  else if st = 8 then (if dig c then 8 else -1)
  else -1
def acc (st : Int) : Bool := decide (st = 2 ∨ st = 3 ∨ st = 5 ∨ st = 8)
def ends (st : Int) (p : Nat) : Int := if acc st then (p : Int) else -1
def mrun : List Int → Int → Nat → Int
  | [], st, p => ends st p
  | c :: s, st, p => if step st c = -1 then ends st p else mrun s (step st c) (p + 1)

/-! ### The reader -/
def afterD (f : List Int → Nat → Int) : List Int → Nat → Int
  | [], p => f [] p
  | c :: t, p => if dig c then afterD f t (p + 1) else f (c :: t) p
def here (_ : List Int) (p : Nat) : Int := p
def v3d : List Int → Nat → Int
  | [], _ => -1
  | c :: t, p => if dig c then afterD here (c :: t) p else -1
def v3s : List Int → Nat → Int
  | [], _ => -1
  | c :: t, p => if sgn c then v3d t (p + 1) else v3d (c :: t) p
def v3 : List Int → Nat → Int
  | [], p => p
  | c :: t, p => if isE c then v3s t (p + 1) else p
def v2d : List Int → Nat → Int
  | [], _ => -1
  | c :: t, p => if dig c then afterD v3 (c :: t) p else -1
def v2 : List Int → Nat → Int
  | [], p => v3 [] p
  | c :: t, p => if c = 46 then v2d t (p + 1) else v3 (c :: t) p
def v1 : List Int → Nat → Int
  | [], _ => -1
  | c :: t, p => if c = 48 then v2 t (p + 1) else if dig c then afterD v2 (c :: t) p else -1
def v0 : List Int → Nat → Int
  | [], _ => -1
  | c :: t, p => if c = 45 then v1 t (p + 1) else v1 (c :: t) p

theorem step8 (c : Int) : step 8 c = if dig c then 8 else -1 := rfl
theorem run8 : ∀ (s : List Int) (p : Nat), mrun s 8 p = afterD here s p
  | [], p => rfl
  | c :: s, p => by
    show (if step 8 c = -1 then _ else mrun s (step 8 c) (p + 1)) = if dig c then afterD here s (p + 1) else here (c :: s) p
    rw [step8]
    cases dig c
    · rfl
    · exact run8 s (p + 1)
theorem run7 (s : List Int) (p : Nat) : mrun s 7 p = v3d s p := by
  cases s with
  | nil => rfl
  | cons c s =>
    show (if step 7 c = -1 then _ else mrun s (step 7 c) (p + 1)) = if dig c then (if dig c then afterD here s (p + 1) else here (c :: s) p) else -1
    have e : step 7 c = if dig c then 8 else -1 := rfl
    rw [e]
    cases dig c
    · rfl
    · exact run8 s (p + 1)
theorem dig_sgn (c : Int) (h : sgn c = true) : dig c = false := by
  simp [sgn] at h
  rw [dig_no]
  omega
theorem dig_E (c : Int) (h : isE c = true) : dig c = false := by
  simp [isE] at h
  rw [dig_no]
  omega
theorem run6 (s : List Int) (p : Nat) : mrun s 6 p = v3s s p := by
  cases s with
  | nil => rfl
  | cons c s =>
    show (if step 6 c = -1 then _ else mrun s (step 6 c) (p + 1)) = if sgn c then v3d s (p + 1) else (if dig c then (if dig c then afterD here s (p + 1) else here (c :: s) p) else -1)
    have e : step 6 c = if sgn c then 7 else if dig c then 8 else -1 := rfl
    rw [e]
    cases sgn c
    · cases dig c
      · rfl
      · exact run8 s (p + 1)
    · exact run7 s (p + 1)
theorem run5 : ∀ (s : List Int) (p : Nat), mrun s 5 p = afterD v3 s p
  | [], p => rfl
  | c :: s, p => by
    show (if step 5 c = -1 then _ else mrun s (step 5 c) (p + 1)) = if dig c then afterD v3 s (p + 1) else (if isE c then v3s s (p + 1) else p)
    have e : step 5 c = if dig c then 5 else if isE c then 6 else -1 := rfl
    rw [e]
    cases dig c
    · cases isE c
      · rfl
      · exact run6 s (p + 1)
    · exact run5 s (p + 1)
theorem run4 (s : List Int) (p : Nat) : mrun s 4 p = v2d s p := by
  cases s with
  | nil => rfl
  | cons c s =>
    show (if step 4 c = -1 then _ else mrun s (step 4 c) (p + 1)) = if dig c then (if dig c then afterD v3 s (p + 1) else v3 (c :: s) p) else -1
    have e : step 4 c = if dig c then 5 else -1 := rfl
    rw [e]
    cases dig c
    · rfl
    · exact run5 s (p + 1)
theorem run2 (s : List Int) (p : Nat) : mrun s 2 p = v2 s p := by
  cases s with
  | nil => rfl
  | cons c s =>
    show (if step 2 c = -1 then _ else mrun s (step 2 c) (p + 1)) = if c = 46 then v2d s (p + 1) else (if isE c then v3s s (p + 1) else p)
    have e : step 2 c = if c = 46 then 4 else if isE c then 6 else -1 := rfl
    rw [e]
    by_cases h : c = 46
    · rw [if_pos h, if_pos h]
      exact run4 s (p + 1)
    · rw [if_neg h, if_neg h]
      cases isE c
      · rfl
      · exact run6 s (p + 1)
theorem run3 : ∀ (s : List Int) (p : Nat), mrun s 3 p = afterD v2 s p
  | [], p => rfl
  | c :: s, p => by
    show (if step 3 c = -1 then _ else mrun s (step 3 c) (p + 1)) = if dig c then afterD v2 s (p + 1) else (if c = 46 then v2d s (p + 1) else (if isE c then v3s s (p + 1) else p))
    have e : step 3 c = if dig c then 3 else if c = 46 then 4 else if isE c then 6 else -1 := rfl
    rw [e]
    cases dig c
    · by_cases h : c = 46
      · simp only [if_pos h]
        exact run4 s (p + 1)
      · simp only [if_neg h]
        cases isE c
        · rfl
        · exact run6 s (p + 1)
    · exact run3 s (p + 1)
theorem run1 (s : List Int) (p : Nat) : mrun s 1 p = v1 s p := by
  cases s with
  | nil => rfl
  | cons c s =>
    show (if step 1 c = -1 then _ else mrun s (step 1 c) (p + 1)) = if c = 48 then v2 s (p + 1) else if dig c then (if dig c then afterD v2 s (p + 1) else v2 (c :: s) p) else -1
    have e : step 1 c = if c = 48 then 2 else if dig c then 3 else -1 := rfl
    rw [e]
    by_cases h : c = 48
    · simp only [if_pos h]
      exact run2 s (p + 1)
    · simp only [if_neg h]
      cases dig c
      · rfl
      · exact run3 s (p + 1)
theorem run0 (s : List Int) (p : Nat) : mrun s 0 p = v0 s p := by
  cases s with
  | nil => rfl
  | cons c s =>
    show (if step 0 c = -1 then _ else mrun s (step 0 c) (p + 1)) = if c = 45 then v1 s (p + 1) else if c = 48 then v2 s (p + 1) else if dig c then (if dig c then afterD v2 s (p + 1) else v2 (c :: s) p) else -1
    have e : step 0 c = if c = 45 then 1 else if c = 48 then 2 else if dig c then 3 else -1 := rfl
    rw [e]
    by_cases h1 : c = 45
    · simp only [if_pos h1]
      exact run1 s (p + 1)
    · simp only [if_neg h1]
      by_cases h : c = 48
      · simp only [if_pos h]
        exact run2 s (p + 1)
      · simp only [if_neg h]
        cases dig c
        · rfl
        · exact run3 s (p + 1)

theorem step_range (st c : Int) (h : step st c ≠ -1) : 0 ≤ step st c ∧ step st c ≤ 8 := by
  revert h
  unfold step
  repeat' split
  all_goals first | omega | (intro h; omega)

/-! ### A list read by places -/
theorem drop_at (zs : List Int) (k : Nat) (h : k < zs.length) : zs.drop k = zs[k]?.getD 0 :: zs.drop (k + 1) := by
  rw [List.drop_eq_getElem_cons h]
  simp [h]
theorem drop_end (zs : List Int) (k : Nat) (h : zs.length ≤ k) : zs.drop k = [] := List.drop_of_length_le h
end Go.Proofs.Qxb6605386a
