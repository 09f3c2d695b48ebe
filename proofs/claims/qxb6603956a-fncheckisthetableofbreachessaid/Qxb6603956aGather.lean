/-
  SEAT b6603956a: PLAIN: what is gathered by a test, sorted, and counted.
-/
import Derived.Test.Qxb6603956aPlain
namespace Go.Proofs.Qxb6603956a

/-- The participants below n that the test picks, in order. -/
def gather (p : Nat → Bool) (P : Nat → Int) : Nat → List Int
  | 0 => []
  | k + 1 => gather p P k ++ (if p k then [P k] else [])

theorem gather_yes {p : Nat → Bool} {P : Nat → Int} {k : Nat} (h : p k = true) : gather p P (k + 1) = gather p P k ++ [P k] := by
  show gather p P k ++ (if p k then [P k] else []) = _
  rw [if_pos h]
theorem gather_no {p : Nat → Bool} {P : Nat → Int} {k : Nat} (h : p k = false) : gather p P (k + 1) = gather p P k := by
  show gather p P k ++ (if p k then [P k] else []) = _
  rw [if_neg (by simp [h]), List.append_nil]

theorem gather_length (p : Nat → Bool) (P : Nat → Int) (n : Nat) : (gather p P n).length = cntIf p n := by
  induction n with
  | zero => rfl
  | succ n ih =>
    show (gather p P n ++ (if p n then [P n] else [])).length = _
    rw [List.length_append, ih, cntIf_succ]
    split <;> rfl

theorem gather_count (p : Nat → Bool) (P : Nat → Int) (x : Int) (n : Nat) : (gather p P n).count x = cntIf (fun i => p i && P i == x) n := by
  induction n with
  | zero => rfl
  | succ n ih =>
    show (gather p P n ++ (if p n then [P n] else [])).count x = _
    rw [List.count_append, ih, cntIf_succ]
    congr 1
    cases hp : p n with
    | false => simp
    | true => simp [List.count_singleton]

theorem cnt_getD (z : List Int) (x : Int) : cntIf (fun j => z.getD j 0 == x) z.length = z.count x := by
  have key : ∀ k, k ≤ z.length → cntIf (fun j => z.getD j 0 == x) k = (z.take k).count x := by
    intro k
    induction k with
    | zero => intro _; simp [cntIf]
    | succ k ih =>
      intro hk
      rw [cntIf_succ, ih (by omega), List.take_succ_eq_append_getElem (by omega), List.count_append]
      congr 1
      have : z.getD k 0 = z[k] := by simp [List.getD, List.getElem?_eq_getElem (show k < z.length by omega)]
      rw [this, List.count_singleton]
  have := key z.length (Nat.le_refl _)
  rwa [List.take_length] at this

def leI (x y : Int) : Bool := decide (x ≤ y)

/-- The gathered list, sorted. -/
def sorted (p : Nat → Bool) (P : Nat → Int) (n : Nat) : List Int := (gather p P n).mergeSort fun x y => decide (x ≤ y)

theorem sorted_length (p : Nat → Bool) (P : Nat → Int) (n : Nat) : (sorted p P n).length = cntIf p n := by
  unfold sorted
  rw [List.length_mergeSort, gather_length]

theorem sorted_up (p : Nat → Bool) (P : Nat → Int) (n i : Nat) (h : i + 1 < cntIf p n) : (sorted p P n).getD i 0 ≤ (sorted p P n).getD (i + 1) 0 := by
  have hl := sorted_length p P n
  have hs : (sorted p P n).Pairwise fun x y => decide (x ≤ y) = true :=
    List.pairwise_mergeSort (fun a b c h1 h2 => by simp at *; omega) (fun a b => by simp; omega) _
  have h1 : i + 1 < (sorted p P n).length := by omega
  have := (List.pairwise_iff_getElem.1 hs) i (i + 1) (by omega) h1 (by omega)
  simp only [List.getD, List.getElem?_eq_getElem h1, List.getElem?_eq_getElem (show i < (sorted p P n).length by omega), Option.getD_some]
  simpa using this

theorem sorted_count (p : Nat → Bool) (P : Nat → Int) (n : Nat) (x : Int) : cntIf (fun i => p i && P i == x) n = cntIf (fun j => (sorted p P n).getD j 0 == x) (cntIf p n) := by
  rw [← gather_count, ← sorted_length p P n, cnt_getD]
  exact ((List.mergeSort_perm _ _).count_eq x).symm

end Go.Proofs.Qxb6603956a
