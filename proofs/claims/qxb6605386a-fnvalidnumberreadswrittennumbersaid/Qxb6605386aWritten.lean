/-
  Seat b6605386a: the plain mathematics of a written number: the reader reads it whole and no further.
-/
import Derived.Test.Qxb6605386aMath
namespace Go.Proofs.Qxb6605386a

/-- What may follow a run of digits. -/
def NoDig (r : List Int) : Prop := ∀ c t, r = c :: t → dig c = false
/-- What may follow a whole number. -/
def Ends (r : List Int) : Prop := ∀ c t, r = c :: t → dig c = false ∧ ¬ c = 46 ∧ isE c = false
def Digs (ds : List Int) : Prop := ds ≠ [] ∧ ∀ c ∈ ds, dig c = true
/-- A natural number as written: no zero ahead. -/
def Whole (ds : List Int) : Prop := Digs ds ∧ ∀ t, ds = 48 :: t → t = []
def IntText (I : List Int) : Prop := Whole I ∨ ∃ ds, I = 45 :: ds ∧ Whole ds
def FracText (F : List Int) : Prop := F = [] ∨ ∃ fs, F = 46 :: fs ∧ Digs fs
def ExpText (E : List Int) : Prop := E = [] ∨ ∃ e X, E = e :: X ∧ isE e = true ∧ (Digs X ∨ ∃ s es, X = s :: es ∧ sgn s = true ∧ Digs es)

theorem afterD_run (f : List Int → Nat → Int) (r : List Int) (hr : NoDig r) : ∀ (ds : List Int) (p : Nat), (∀ c ∈ ds, dig c = true) → afterD f (ds ++ r) p = f r (p + ds.length)
  | [], p, _ => by
    cases r with
    | nil => rfl
    | cons c t =>
      show (if dig c then _ else f (c :: t) p) = _
      rw [if_neg (by rw [hr c t rfl]; decide)]
      rfl
  | c :: ds, p, h => by
    show (if dig c then afterD f (ds ++ r) (p + 1) else _) = _
    rw [if_pos (h c (by simp)), afterD_run f r hr ds (p + 1) (fun x hx => h x (by simp [hx]))]
    congr 1
    simp
    omega

theorem v3d_run (es T : List Int) (p : Nat) (he : Digs es) (hT : NoDig T) : v3d (es ++ T) p = (p + es.length : Nat) := by
  obtain ⟨hne, hd⟩ := he
  cases es with
  | nil => exact absurd rfl hne
  | cons c es =>
    show (if dig c then afterD here (c :: es ++ T) p else -1) = _
    rw [if_pos (hd c (by simp)), afterD_run here T hT _ p hd]
    rfl
theorem noDig_ends {T : List Int} (h : Ends T) : NoDig T := fun c t e => (h c t e).1
theorem v3_run (E T : List Int) (p : Nat) (hE : ExpText E) (hT : Ends T) : v3 (E ++ T) p = (p + E.length : Nat) := by
  rcases hE with rfl | ⟨e, X, rfl, he, hX⟩
  · cases T with
    | nil => rfl
    | cons c t =>
      show (if isE c then _ else (p : Int)) = _
      rw [if_neg (by rw [(hT c t rfl).2.2]; decide)]
      rfl
  · show (if isE e then v3s (X ++ T) (p + 1) else _) = _
    rw [if_pos he]
    rcases hX with hX | ⟨s, es, rfl, hs, hes⟩
    · have hX' := hX
      obtain ⟨hne, hd⟩ := hX
      cases X with
      | nil => exact absurd rfl hne
      | cons c X =>
        have hc := hd c (by simp)
        have hsg : sgn c = false := by
          cases h : sgn c with
          | false => rfl
          | true => have := dig_sgn c h; rw [hc] at this; cases this
        show (if sgn c then _ else v3d (c :: X ++ T) (p + 1)) = _
        rw [if_neg (by rw [hsg]; decide), v3d_run (c :: X) T (p + 1) hX' (noDig_ends hT)]
        simp
        omega
    · show (if sgn s then v3d (es ++ T) (p + 1 + 1) else _) = _
      rw [if_pos hs, v3d_run es T (p + 1 + 1) hes (noDig_ends hT)]
      simp
      omega
/-- What follows the fraction begins with no digit and no point. -/
theorem head_exp {E T : List Int} (hE : ExpText E) (hT : Ends T) : ∀ c t, E ++ T = c :: t → dig c = false ∧ ¬ c = 46 := by
  rcases hE with rfl | ⟨e, X, rfl, he, _⟩
  · intro c t h
    have := hT c t h
    exact ⟨this.1, this.2.1⟩
  · intro c t h
    simp only [List.cons_append, List.cons.injEq] at h
    obtain ⟨rfl, _⟩ := h
    refine ⟨dig_E e he, ?_⟩
    simp [isE] at he
    omega
theorem v2_run (F E T : List Int) (p : Nat) (hF : FracText F) (hE : ExpText E) (hT : Ends T) : v2 (F ++ (E ++ T)) p = (p + F.length + E.length : Nat) := by
  have hh := head_exp hE hT
  rcases hF with rfl | ⟨fs, rfl, hne, hd⟩
  · have e3 := v3_run E T p hE hT
    show v2 (E ++ T) p = _
    cases h : E ++ T with
    | nil => rw [h] at e3; exact e3
    | cons c t =>
      show (if c = 46 then _ else v3 (c :: t) p) = _
      rw [if_neg (hh c t h).2, ← h]
      exact e3
  · show (if (46 : Int) = 46 then v2d (fs ++ (E ++ T)) (p + 1) else v3 (46 :: (fs ++ (E ++ T))) p) = _
    rw [if_pos rfl]
    cases fs with
    | nil => exact absurd rfl hne
    | cons c fs =>
      show (if dig c then afterD v3 (c :: fs ++ (E ++ T)) (p + 1) else -1) = _
      rw [if_pos (hd c (by simp)), afterD_run v3 (E ++ T) (fun c t e => (hh c t e).1) _ (p + 1) hd, v3_run E T _ hE hT]
      simp
      omega
theorem head_frac {F R : List Int} (hF : FracText F) (hR : NoDig R) : NoDig (F ++ R) := by
  rcases hF with rfl | ⟨fs, rfl, _⟩
  · exact hR
  · intro c t h
    simp only [List.cons_append, List.cons.injEq] at h
    obtain ⟨rfl, _⟩ := h
    rfl
theorem v1_run (ds F E T : List Int) (p : Nat) (hI : Whole ds) (hF : FracText F) (hE : ExpText E) (hT : Ends T) : v1 (ds ++ (F ++ (E ++ T))) p = (p + ds.length + F.length + E.length : Nat) := by
  obtain ⟨⟨hne, hd⟩, h48⟩ := hI
  have hND := head_frac hF (fun c t e => (head_exp hE hT c t e).1)
  cases ds with
  | nil => exact absurd rfl hne
  | cons c ds =>
    show (if c = 48 then v2 (ds ++ (F ++ (E ++ T))) (p + 1) else if dig c then afterD v2 (c :: ds ++ (F ++ (E ++ T))) p else -1) = _
    by_cases hc : c = 48
    · subst hc
      obtain rfl := h48 ds rfl
      rw [if_pos rfl]
      show v2 (F ++ (E ++ T)) (p + 1) = _
      rw [v2_run F E T _ hF hE hT]
      rfl
    · rw [if_neg hc, if_pos (hd c (by simp)), afterD_run v2 _ hND _ p hd, v2_run F E T _ hF hE hT]
theorem v0_run (I F E T : List Int) (p : Nat) (hI : IntText I) (hF : FracText F) (hE : ExpText E) (hT : Ends T) : v0 (I ++ (F ++ (E ++ T))) p = (p + I.length + F.length + E.length : Nat) := by
  rcases hI with hI | ⟨ds, rfl, hI⟩
  · have e1 := v1_run I F E T p hI hF hE hT
    obtain ⟨⟨hne, hd⟩, _⟩ := hI
    cases I with
    | nil => exact absurd rfl hne
    | cons c ds =>
      have hc := (dig_iff c).1 (hd c (by simp))
      show (if c = 45 then _ else v1 (c :: ds ++ (F ++ (E ++ T))) p) = _
      rw [if_neg (by omega)]
      exact e1
  · show (if (45 : Int) = 45 then v1 (ds ++ (F ++ (E ++ T))) (p + 1) else v1 (45 :: (ds ++ (F ++ (E ++ T)))) p) = _
    rw [if_pos rfl, v1_run ds F E T _ hI hF hE hT]
    simp
    omega
end Go.Proofs.Qxb6605386a
