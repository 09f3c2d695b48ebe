/-
  SEAT b6604010a: PLAIN: pairs met one after the other; what each variable was first met with.
-/
namespace Go.Proofs.Qxb6604010a

/-- What v was first met with. -/
def find : List (Int × Int) → Int → Option Int
  | [], _ => none
  | p :: r, v => if p.1 = v then some p.2 else find r v

/-- The list of first meetings behind one meeting more. -/
def meetL (L : List (Int × Int)) (v x : Int) : List (Int × Int) := match find L v with
  | some _ => L
  | none => L ++ [(v, x)]

theorem find_append (L M : List (Int × Int)) (v : Int) : find (L ++ M) v = (find L v).or (find M v) := by
  induction L with
  | nil => simp [find]
  | cons p r ih =>
    show (if p.1 = v then some p.2 else find (r ++ M) v) = Option.or (if p.1 = v then some p.2 else find r v) (find M v)
    by_cases h : p.1 = v
    · rw [if_pos h, if_pos h]; rfl
    · rw [if_neg h, if_neg h, ih]

theorem find_one (v x u : Int) : find [(v, x)] u = if v = u then some x else none := rfl

/-- .. after the first i pairs. -/
def metL (V X : Nat → Int) : Nat → List (Int × Int)
  | 0 => []
  | i + 1 => meetL (metL V X i) (V i) (X i)

theorem meetL_length (L : List (Int × Int)) (v x : Int) : (meetL L v x).length = L.length + (if (find L v).isSome then 0 else 1) := by
  unfold meetL
  cases find L v with
  | none => simp
  | some y => simp

theorem metL_le (V X : Nat → Int) (i : Nat) : (metL V X i).length ≤ i := by
  induction i with
  | zero => simp [metL]
  | succ i ih =>
    show (meetL _ _ _).length ≤ _
    rw [meetL_length]
    split <;> omega

/-- The least place below i that holds v. -/
def firstAt (V : Nat → Int) (v : Int) : Nat → Option Nat
  | 0 => none
  | i + 1 => match firstAt V v i with
    | some j => some j
    | none => if V i = v then some i else none

theorem firstAt_none {V : Nat → Int} {v : Int} {i : Nat} (h : ∀ j, j < i → V j ≠ v) : firstAt V v i = none := by
  induction i with
  | zero => rfl
  | succ i ih =>
    show (match firstAt V v i with | some j => some j | none => if V i = v then some i else none) = none
    rw [ih (fun j hj => h j (by omega))]
    show (if V i = v then some i else none) = none
    rw [if_neg (h i (by omega))]

theorem firstAt_some {V : Nat → Int} {v : Int} {i j : Nat} (hj : j < i) (hv : V j = v) (h : ∀ k, k < j → V k ≠ v) : firstAt V v i = some j := by
  induction i with
  | zero => omega
  | succ i ih =>
    show (match firstAt V v i with | some j => some j | none => if V i = v then some i else none) = some j
    by_cases e : j = i
    · subst e
      rw [firstAt_none h]
      show (if V j = v then some j else none) = some j
      rw [if_pos hv]
    · rw [ih (by omega)]

theorem find_met (V X : Nat → Int) (v : Int) (i : Nat) : find (metL V X i) v = (firstAt V v i).map X := by
  induction i with
  | zero => rfl
  | succ i ih =>
    show find (meetL (metL V X i) (V i) (X i)) v = _
    have e : firstAt V v (i + 1) = (match firstAt V v i with | some j => some j | none => if V i = v then some i else none) := rfl
    rw [e]
    unfold meetL
    cases hf : find (metL V X i) (V i) with
    | some y =>
      show find (metL V X i) v = _
      rw [ih]
      cases hv : firstAt V v i with
      | some j => rfl
      | none =>
        show none = Option.map X (if V i = v then some i else none)
        by_cases e2 : V i = v
        · rw [e2, ih, hv] at hf; cases hf
        · rw [if_neg e2]; rfl
    | none =>
      show find (metL V X i ++ [(V i, X i)]) v = _
      rw [find_append, ih, find_one]
      cases hv : firstAt V v i with
      | some j => rfl
      | none =>
        show Option.or none (if V i = v then some (X i) else none) = Option.map X (if V i = v then some i else none)
        by_cases e2 : V i = v
        · rw [if_pos e2, if_pos e2]; rfl
        · rw [if_neg e2, if_neg e2]; rfl

/-- The index of the first pair of a variable. -/
theorem find_none_iff (L : List (Int × Int)) (v : Int) : find L v = none ↔ ∀ j, j < L.length → (L.getD j (0, 0)).1 ≠ v := by
  induction L with
  | nil => simp [find]
  | cons p r ih =>
    show (if p.1 = v then some p.2 else find r v) = none ↔ _
    by_cases h : p.1 = v
    · rw [if_pos h]
      constructor
      · intro e; cases e
      · intro k; exact absurd h (by simpa using k 0 (by simp))
    · rw [if_neg h, ih]
      constructor
      · intro k j hj
        cases j with
        | zero => simpa using h
        | succ j => simpa using k j (by simpa using hj)
      · intro k j hj
        simpa using k (j + 1) (by simpa using hj)

theorem find_some_at {L : List (Int × Int)} {v : Int} {j : Nat} (hj : j < L.length) (hv : (L.getD j (0, 0)).1 = v) (h : ∀ k, k < j → (L.getD k (0, 0)).1 ≠ v) : find L v = some (L.getD j (0, 0)).2 := by
  induction L generalizing j with
  | nil => simp at hj
  | cons p r ih =>
    show (if p.1 = v then some p.2 else find r v) = _
    cases j with
    | zero =>
      rw [if_pos (by simpa using hv)]
      rfl
    | succ j =>
      rw [if_neg (by simpa using h 0 (by omega))]
      have := ih (j := j) (by simpa using hj) (by simpa using hv) (fun k hk => by simpa using h (k + 1) (by omega))
      rw [this]
      rfl

end Go.Proofs.Qxb6604010a
