/-
  PLAIN MATHEMATICS FOR THE SEAT b6603956a: counting below a bound. No Go in sight.
-/
namespace Go.Proofs.Qxb6603956a

/-- How many i below k answer yes. -/
def cntIf (p : Nat → Bool) : Nat → Nat
  | 0 => 0
  | k + 1 => cntIf p k + (if p k then 1 else 0)

theorem cntIf_succ (p : Nat → Bool) (k : Nat) : cntIf p (k + 1) = cntIf p k + (if p k then 1 else 0) := rfl

theorem cntIf_le (p : Nat → Bool) (k : Nat) : cntIf p k ≤ k := by
  induction k with
  | zero => simp [cntIf]
  | succ k ih => rw [cntIf_succ]; split <;> omega

theorem cntIf_congr {p q : Nat → Bool} {k : Nat} (h : ∀ i, i < k → p i = q i) : cntIf p k = cntIf q k := by
  induction k with
  | zero => rfl
  | succ k ih => rw [cntIf_succ, cntIf_succ, ih (fun i hi => h i (by omega)), h k (by omega)]

/-- All of them answer yes just where the count is the bound. -/
theorem cntIf_all (p : Nat → Bool) (k : Nat) : cntIf p k = k ↔ ∀ i, i < k → p i = true := by
  induction k with
  | zero => simp [cntIf]
  | succ k ih =>
    have hle := cntIf_le p k
    rw [cntIf_succ]
    constructor
    · intro h
      have hk : p k = true := by
        cases hp : p k with
        | true => rfl
        | false => rw [hp] at h; simp at h; omega
      rw [hk] at h
      simp at h
      intro i hi
      by_cases e : i = k
      · rw [e]; exact hk
      · exact ih.1 h i (by omega)
    · intro h
      rw [h k (by omega), ih.2 (fun i hi => h i (by omega))]
      simp

/-- One place is turned. -/
theorem cntIf_set {p q : Nat → Bool} {n j : Nat} (hj : j < n) (h : ∀ i, i < n → i ≠ j → p i = q i) :
    cntIf q n + (if p j then 1 else 0) = cntIf p n + (if q j then 1 else 0) := by
  induction n with
  | zero => omega
  | succ n ih =>
    rw [cntIf_succ, cntIf_succ]
    by_cases e : j = n
    · subst e
      have := cntIf_congr (p := p) (q := q) (k := j) (fun i hi => h i (by omega) (by omega))
      omega
    · have := ih (by omega) (fun i hi hne => h i (by omega) hne)
      have hn := h n (by omega) (fun h => e h.symm)
      rw [hn]
      omega

end Go.Proofs.Qxb6603956a
