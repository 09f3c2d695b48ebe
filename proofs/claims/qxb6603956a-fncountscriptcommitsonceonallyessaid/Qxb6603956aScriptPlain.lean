/-
  SEAT b6603956a: THE SCRIPT's TALLY, PLAIN: what one vote does to the counts; and the call's own three rows in memory.
-/
import Derived.Test.Qxb6603956aTally
namespace Go.Proofs.Qxb6603956a
open Go.RowKit

theorem cntIf_zero {p : Nat → Bool} {n : Nat} (h : ∀ i, i < n → p i = false) : cntIf p n = 0 := by
  induction n with
  | zero => rfl
  | succ n ih => rw [cntIf_succ, ih (fun i hi => h i (by omega)), h n (by omega)]; rfl

section
variable {V : Nat → Int} {n j : Nat} {v : Int}

theorem put_at (hz : V j = 0) : putVote V j v j = v := by unfold putVote; rw [if_pos ⟨hz, rfl⟩]
theorem put_old (hz : V j ≠ 0) : putVote V j v = V := by funext i; unfold putVote; rw [if_neg (fun h => hz h.1)]
theorem put_ne {i : Nat} (h : i ≠ j) : putVote V j v i = V i := by unfold putVote; rw [if_neg (fun e => h e.2)]

/-- What one vote does to the count of the votes that are x (x is not the empty vote). -/
theorem cnt_put (hj : j < n) (hz : V j = 0) (x : Int) (hx : x ≠ 0) : cntIf (fun i => putVote V j v i == x) n = cntIf (fun i => V i == x) n + (if v = x then 1 else 0) := by
  have hs := cntIf_set (p := fun i => V i == x) (q := fun i => putVote V j v i == x) hj (fun i _ hne => by simp [putVote, hne])
  have e1 : (V j == x) = false := by rw [hz]; simp; omega
  simp only [e1, put_at hz] at hs
  by_cases hv : v = x
  · rw [if_pos hv]
    have e2 : (v == x) = true := by simpa using hv
    rw [e2] at hs
    simpa using hs
  · rw [if_neg hv]
    have e2 : (v == x) = false := by simpa using hv
    rw [e2] at hs
    simpa using hs

theorem cnt_lt (hj : j < n) (hz : V j = 0) : cntIf (fun i => V i == 1) n < n := by
  have h := cnt_put (v := 1) hj hz 1 (by decide)
  rw [if_pos rfl] at h
  have := cntIf_le (fun i => putVote V j 1 i == 1) n
  omega

/-- Where all but this one have said yes, nobody has said no. -/
theorem no_noes (hj : j < n) (hz : V j = 0) (h : cntIf (fun i => V i == 1) n + 1 = n) : cntIf (fun i => V i == 2) n = 0 := by
  have h1 := cnt_put (v := 1) hj hz 1 (by decide)
  rw [if_pos rfl, h] at h1
  have h2 := (cntIf_all _ n).1 h1
  refine cntIf_zero fun i hi => ?_
  by_cases e : i = j
  · rw [e, hz]; rfl
  · have h3 := h2 i hi
    simp only [put_ne e] at h3
    have h4 : V i = 1 := by simpa using h3
    rw [h4]; rfl
end

/-- How often Commit has been answered. -/
def commitsOf (V : Nat → Int) (n : Nat) : Int := if 0 < n ∧ cntIf (fun i => V i == 1) n = n then 1 else 0
/-- How often Abort has been answered on behalf of i. -/
def abortsAt (V : Nat → Int) (i : Nat) : Int := if V i = 2 then 1 else 0

section
variable {V : Nat → Int} {n j : Nat} {v : Int}
theorem commits_lt (hj : j < n) (hz : V j = 0) : commitsOf V n = 0 := by
  have := cnt_lt hj hz
  unfold commitsOf; rw [if_neg (by omega)]
theorem commits_put (hj : j < n) (hz : V j = 0) : commitsOf (putVote V j v) n = if v = 1 ∧ cntIf (fun i => V i == 1) n + 1 = n then 1 else 0 := by
  have h := cnt_put (v := v) hj hz 1 (by decide)
  have hl := cnt_lt hj hz
  unfold commitsOf
  rw [h]
  by_cases hv : v = 1
  · rw [if_pos hv]
    by_cases e : cntIf (fun i => V i == 1) n + 1 = n
    · rw [if_pos ⟨by omega, e⟩, if_pos ⟨hv, e⟩]
    · rw [if_neg (fun h => e h.2), if_neg (fun h => e h.2)]
  · rw [if_neg hv, if_neg (by omega), if_neg (fun h => hv h.1)]
theorem aborts_put (hz : V j = 0) (hv : v ≠ 2) (i : Nat) : abortsAt V i = abortsAt (putVote V j v) i := by
  unfold abortsAt
  by_cases e : i = j
  · rw [e, put_at hz, hz, if_neg (by decide), if_neg hv]
  · rw [put_ne e]
theorem aborts_put2 (hz : V j = 0) (i : Nat) : (if i = j then 1 else abortsAt V i) = abortsAt (putVote V j 2) i := by
  unfold abortsAt
  by_cases e : i = j
  · rw [if_pos e, e, put_at hz, if_pos rfl]
  · rw [if_neg e, put_ne e]
end

/-- Nobody has voted. -/
def zeroV : Nat → Int := fun _ => 0
theorem zero_cnt1 (n : Nat) : cntIf (fun i => zeroV i == 1) n = 0 := cntIf_zero (fun _ _ => rfl)
theorem zero_cnt2 (n : Nat) : cntIf (fun i => zeroV i == 2) n = 0 := cntIf_zero (fun _ _ => rfl)
theorem zero_commits (n : Nat) : commitsOf zeroV n = 0 := by unfold commitsOf; rw [zero_cnt1, if_neg (by omega)]
theorem zero_aborts (i : Nat) : abortsAt zeroV i = 0 := by unfold abortsAt zeroV; rw [if_neg (by decide)]
theorem put_if {V : Nat → Int} {j : Nat} {v : Int} (hz : V j = 0) (i : Nat) : (if i = j then v else V i) = putVote V j v i := by
  by_cases e : i = j
  · rw [if_pos e, e, put_at hz]
  · rw [if_neg e, put_ne e]

/-- THE CALL's OWN THREE ROWS behind the clones: the votes, the first votes, the aborts. -/
structure Rows3 (w2 wr : World) (n : Nat) (V W A : Nat → Int) : Prop where
  below : Below w2.heap.size w2 wr
  size : w2.heap.size + 3 ≤ wr.heap.size
  votes : wr.rowIs w2.heap.size 40 n (fun i => .int .u8 (V i))
  first : wr.rowIs (w2.heap.size + 1) 40 n (fun i => .int .u8 (W i))
  aborts : wr.rowIs (w2.heap.size + 1 + 1) 3 n (fun i => .int .i64 (A i))

namespace Rows3
variable {w2 wr w' : World} {n j : Nat} {V W A V' W' A' : Nat → Int} {v : Int}

theorem congr (h : Rows3 w2 wr n V W A) (hW : ∀ i, W i = W' i) (hA : ∀ i, A i = A' i) : Rows3 w2 wr n V W' A' :=
  ⟨h.below, h.size, h.votes, h.first.congr (fun i _ => by rw [hW]), h.aborts.congr (fun i _ => by rw [hA])⟩

theorem setFirst (h : Rows3 w2 wr n V W A) (j : Nat) (v : Int) : Rows3 w2 (wr.setCell ⟨w2.heap.size + 1, j, none⟩ (.int .u8 v)) n V (fun i => if i = j then v else W i) A :=
  ⟨h.below.setCell (by show w2.heap.size ≤ w2.heap.size + 1; omega) _, by simpa using h.size, h.votes.setOther (by show w2.heap.size ≠ w2.heap.size + 1; omega) _,
    (h.first.set j _).congr (fun i _ => by split <;> rfl), h.aborts.setOther (by show w2.heap.size + 1 + 1 ≠ w2.heap.size + 1; omega) _⟩

theorem setAborts (h : Rows3 w2 wr n V W A) (j : Nat) (v : Int) : Rows3 w2 (wr.setCell ⟨w2.heap.size + 1 + 1, j, none⟩ (.int .i64 v)) n V W (fun i => if i = j then v else A i) :=
  ⟨h.below.setCell (by show w2.heap.size ≤ w2.heap.size + 1 + 1; omega) _, by simpa using h.size, h.votes.setOther (by show w2.heap.size ≠ w2.heap.size + 1 + 1; omega) _,
    h.first.setOther (by show w2.heap.size + 1 ≠ w2.heap.size + 1 + 1; omega) _, (h.aborts.set j _).congr (fun i _ => by split <;> rfl)⟩

theorem counted (h : Rows3 w2 wr n V W A) (hg : wr.grownBy w' (some w2.heap.size)) (hr : w'.rowIs w2.heap.size 40 n (fun i => .int .u8 (V' i))) : Rows3 w2 w' n V' W A :=
  ⟨h.below.grown hg (by have := h.size; omega) (fun k hk => by cases hk; omega), by have := h.size; have := hg.size; omega, hr,
    h.first.of_block (hg.block _ (by have := h.size; omega) (by simp)), h.aborts.of_block (hg.block _ (by have := h.size; omega) (by simp; omega))⟩

theorem drewN (h : Rows3 w2 wr n V W A) (k : Nat) : Rows3 w2 (wr.drewN k) n V W A :=
  ⟨⟨h.below.os, h.below.tape, h.below.output, h.below.size, h.below.block⟩, h.size, h.votes, h.first, h.aborts⟩

theorem start (w2 : World) (n : Nat) : Rows3 w2 (((w2.alloc (.cells (madeCells #[.int .u8 0] n) 40)).alloc (.cells (madeCells #[.int .u8 0] n) 40)).alloc (.cells (madeCells #[.int .i64 0] n) 3)) n zeroV zeroV (abortsAt zeroV) := by
  have h1 := World.rowIs_made w2 (.int .u8 0) n 40
  have h2 := World.rowIs_made (w2.alloc (.cells (madeCells #[.int .u8 0] n) 40)) (.int .u8 0) n 40
  have h3 := World.rowIs_made ((w2.alloc (.cells (madeCells #[.int .u8 0] n) 40)).alloc (.cells (madeCells #[.int .u8 0] n) 40)) (.int .i64 0) n 3
  simp only [World.size_alloc] at h2 h3
  exact ⟨(((Below.refl _ _).alloc (Nat.le_refl _) _).alloc (by simp) _).alloc (by simp; omega) _, by simp, (h1.alloc _).alloc _, h2.alloc _, h3.congr (fun i _ => by rw [zero_aborts])⟩
end Rows3

end Go.Proofs.Qxb6603956a
