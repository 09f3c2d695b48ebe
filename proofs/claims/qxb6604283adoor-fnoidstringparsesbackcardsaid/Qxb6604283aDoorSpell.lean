/-
  SEAT b6604283aD: PLAIN: WHAT STANDS WHERE IN THE SPELLING.
-/
import Derived.Test.Qxb6604283aDoorStr
namespace Go.Proofs.Qxb6604283aDoor
open Go.Lib (nDigits decDigits)

/-- Where number k begins. -/
def posOf (V : Nat → Nat) (k : Nat) : Nat := (outB V k).length + (if k = 0 then 0 else 1)
/-- The digit at place t (the first is place 0). -/
def digAt (u t : Nat) : Nat := u / 10 ^ (nDigits u - 1 - t) % 10
/-- What the first t digits say. -/
def accOf (u t : Nat) : Nat := u / 10 ^ (nDigits u - t)

theorem outB_prefix (V : Nat → Nat) (n k : Nat) (h : k ≤ n) : ∃ r, outB V n = outB V k ++ r := by
  induction n with
  | zero => obtain rfl : k = 0 := by omega
            exact ⟨[], by simp⟩
  | succ n ih =>
    by_cases e : k = n + 1
    · subst e; exact ⟨[], by simp⟩
    · obtain ⟨r, hr⟩ := ih (by omega)
      refine ⟨r ++ ((if n = 0 then [] else [46]) ++ decDigits (V n)), ?_⟩
      show outB V n ++ _ = _
      rw [hr, List.append_assoc]

theorem end_eq (V : Nat → Nat) (k : Nat) : (outB V (k + 1)).length = posOf V k + nDigits (V k) := by
  show (outB V k ++ ((if k = 0 then [] else [46]) ++ decDigits (V k))).length = _
  rw [List.length_append, List.length_append, Lib.decDigits_length]
  unfold posOf
  split <;> simp <;> omega

theorem pos_succ (V : Nat → Nat) (k : Nat) : posOf V (k + 1) = posOf V k + nDigits (V k) + 1 := by
  show (outB V (k + 1)).length + (if k + 1 = 0 then 0 else 1) = _
  rw [end_eq, if_neg (by omega)]

theorem dig_at (V : Nat → Nat) (n k t : Nat) (hk : k < n) (ht : t < nDigits (V k)) : (outB V n)[posOf V k + t]? = some (UInt8.ofNat (48 + digAt (V k) t)) := by
  obtain ⟨r, hr⟩ := outB_prefix V n (k + 1) hk
  have e : outB V (k + 1) = (outB V k ++ (if k = 0 then [] else [46])) ++ decDigits (V k) := by
    show outB V k ++ _ = _
    rw [List.append_assoc]
  have hl : (outB V k ++ (if k = 0 then [] else [46])).length = posOf V k := by
    unfold posOf
    rw [List.length_append]
    split <;> simp
  rw [hr, e, List.append_assoc, List.getElem?_append_right (by omega), hl, Nat.add_sub_cancel_left, List.getElem?_append_left (by rw [Lib.decDigits_length]; exact ht), Lib.decDigits_eq]
  simp [ht, Lib.dg, digAt]

theorem point_at (V : Nat → Nat) (n k : Nat) (hk : k + 1 < n) : (outB V n)[posOf V k + nDigits (V k)]? = some 46 := by
  obtain ⟨r, hr⟩ := outB_prefix V n (k + 2) hk
  have e : outB V (k + 2) = outB V (k + 1) ++ ((if k + 1 = 0 then [] else [46]) ++ decDigits (V (k + 1))) := rfl
  rw [hr, e, if_neg (by omega), List.append_assoc, ← end_eq, List.getElem?_append_right (Nat.le_refl _), Nat.sub_self]
  rfl

theorem acc_zero (u : Nat) : accOf u 0 = 0 := by
  unfold accOf
  exact Nat.div_eq_of_lt (Lib.lt_pow_nDigits u)
theorem acc_end (u : Nat) : accOf u (nDigits u) = u := by
  unfold accOf
  rw [Nat.sub_self]
  simp
theorem acc_succ (u t : Nat) (ht : t < nDigits u) : accOf u (t + 1) = accOf u t * 10 + digAt u t := by
  unfold accOf digAt
  rw [show nDigits u - (t + 1) = nDigits u - 1 - t by omega, show nDigits u - t = (nDigits u - 1 - t) + 1 by omega, Nat.pow_succ, ← Nat.div_div_eq_div_mul]
  omega
theorem acc_le (u t : Nat) : accOf u t ≤ u := Nat.div_le_self _ _
theorem dig_le (u t : Nat) : digAt u t ≤ 9 := by unfold digAt; omega

theorem pow_le_of (u : Nat) (h : 1 < nDigits u) : 10 ^ (nDigits u - 1) ≤ u := by
  induction u using Nat.strongRecOn with
  | _ u ih =>
    by_cases h10 : u < 10
    · rw [Lib.nDigits_small h10] at h; omega
    · have e := Lib.nDigits_big h10
      by_cases h1 : 1 < nDigits (u / 10)
      · have := ih (u / 10) (by omega) h1
        rw [e, show nDigits (u / 10) + 1 - 1 = (nDigits (u / 10) - 1) + 1 by omega, Nat.pow_succ]
        omega
      · have := Lib.nDigits_pos (u / 10)
        rw [e, show nDigits (u / 10) + 1 - 1 = 1 by omega]
        omega

theorem first_ne (u : Nat) (h : 1 < nDigits u) : digAt u 0 ≠ 0 := by
  have h1 := pow_le_of u h
  have h2 := Lib.lt_pow_nDigits u
  unfold digAt
  rw [Nat.sub_zero]
  have hp : 0 < 10 ^ (nDigits u - 1) := Nat.pos_of_ne_zero (by simp)
  have h3 : 1 ≤ u / 10 ^ (nDigits u - 1) := (Nat.le_div_iff_mul_le hp).2 (by omega)
  have h4 : u / 10 ^ (nDigits u - 1) < 10 := by
    rw [Nat.div_lt_iff_lt_mul hp, Nat.mul_comm, ← Nat.pow_succ, show (nDigits u - 1).succ = nDigits u by omega]
    exact h2
  omega

theorem str_at (l : List UInt8) (i : Nat) (b : UInt8) (h : l[i]? = some b) : ∃ hi : i < (⟨l.toArray⟩ : ByteArray).size, ((⟨l.toArray⟩ : ByteArray)[i]'hi) = b := by
  obtain ⟨h1, h2⟩ := List.getElem?_eq_some_iff.1 h
  exact ⟨by simpa [ByteArray.size] using h1, by rw [← h2]; rfl⟩

/-- What the law reads in the spelling. -/
structure Spelt (s : ByteArray) (V : Nat → Nat) (n : Nat) : Prop where
  size : s.size ≤ 21 * n
  dig : ∀ k t, k < n → t < nDigits (V k) → ∃ h : posOf V k + t < s.size, (s[posOf V k + t]'h).toNat = 48 + digAt (V k) t
  point : ∀ k, k + 1 < n → ∃ h : posOf V k + nDigits (V k) < s.size, (s[posOf V k + nDigits (V k)]'h).toNat = 46
  last : ∀ k, k + 1 = n → posOf V k + nDigits (V k) = s.size

theorem spelt (V : Nat → Nat) (n : Nat) (h : ∀ i, i < n → V i < 18446744073709551616) : Spelt ⟨(outB V n).toArray⟩ V n where
  size := by simpa [ByteArray.size] using outB_le V n h
  dig := fun k t hk ht => by
    obtain ⟨hi, e⟩ := str_at _ _ _ (dig_at V n k t hk ht)
    refine ⟨hi, ?_⟩
    rw [e]
    have := dig_le (V k) t
    simp
    omega
  point := fun k hk => by
    obtain ⟨hi, e⟩ := str_at _ _ _ (point_at V n k hk)
    exact ⟨hi, by rw [e]; rfl⟩
  last := fun k hk => by
    subst hk
    rw [← end_eq]
    simp [ByteArray.size]

end Go.Proofs.Qxb6604283aDoor
