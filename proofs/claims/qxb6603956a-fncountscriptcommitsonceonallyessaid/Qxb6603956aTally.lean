/-
  SEAT b6603956a: WHAT ZZCount DOES: the tally's slot, the counter, the answer.
-/
import Derived.Test.Qxb6603956aCnt
namespace Go.Proofs.Qxb6603956a
open Go.RowKit

/-- The votes behind the call. -/
def putVote (Z : Nat → Int) (j : Nat) (v : Int) : Nat → Int := fun i => if Z j = 0 ∧ i = j then v else Z i
/-- The answer. -/
def decOf (Z : Nat → Int) (j : Nat) (v : Int) (yes : Int) (n : Nat) : Int :=
  if Z j = 0 then (if v = 1 then (if yes + 1 = n then 1 else 0) else if v = 2 then 2 else 0) else 0
/-- The counter. -/
def yesOf (Z : Nat → Int) (j : Nat) (v : Int) (yes : Int) : Int := if Z j = 0 ∧ v = 1 then yes + 1 else yes

theorem grown_two (w : World) (o o' : Obj) (k : Nat) (row : Option Nat) : w.grownBy (((w.alloc o).alloc o').drewN k) row :=
  ⟨rfl, rfl, rfl, by show w.heap.size ≤ ((w.alloc o).alloc o').heap.size; simp; omega, fun i hi _ => by
    show ((w.alloc o).alloc o').heap[i]? = _
    rw [Below.heap_alloc _ _ _ (by simp; omega), Below.heap_alloc _ _ _ hi]⟩

theorem grown_drewN {w w' : World} {row : Option Nat} (h : w.grownBy w' row) (k : Nat) : w.grownBy (w'.drewN k) row := ⟨h.os, h.tape, h.output, h.size, h.block⟩
theorem row_drewN {w : World} {b t n : Nat} {f : Nat → Value} (h : w.rowIs b t n f) (k : Nat) : (w.drewN k).rowIs b t n f := h

theorem row_two {w : World} {b t n : Nat} {f : Nat → Value} (h : w.rowIs b t n f) (o o' : Obj) (k : Nat) : (((w.alloc o).alloc o').drewN k).rowIs b t n f :=
  (h.alloc o).alloc o'

set_option maxRecDepth 100000 in
set_option maxHeartbeats 800000 in
theorem zzCount_old (b n c j : Nat) (yes v : Int) (Z : Nat → Int) (w : World) (_hn : n ≤ 1048576) (hj : j < n) (hrow : w.rowIs b 40 n (fun i => .int .u8 (Z i))) (hz : (Z j == 0) = false) :
    Calls Try.prog 17 #[.slice (some ⟨b, 0, none⟩) n c, .int .i64 yes, .int .i64 j, .int .u8 v] w fun e w' =>
      e = .returned (.tuple #[.int .u8 0, .slice (some ⟨b, 0, none⟩) n c, .int .i64 yes]) ∧ w.grownBy w' (some b) ∧ w'.rowIs b 40 n (fun i => .int .u8 (Z i)) := by
  have hlt := hrow.lt
  have hcell := hrow.cell hj
  have hc1 : ∀ o, (w.alloc o).cell? ⟨b, j, none⟩ = some (.int .u8 (Z j)) := fun o => (hrow.alloc o).cell hj
  have hc2 : ∀ o o', ((w.alloc o).alloc o').cell? ⟨b, j, none⟩ = some (.int .u8 (Z j)) := fun o o' => ((hrow.alloc o).alloc o').cell hj
  have hz' : (Z j != 0) = true := by simpa using hz
  have H : Hid (w.rowIs b 40 n (fun i => .int .u8 (Z i))) := hrow
  clear hrow
  go_enter Try.func17, Try.ntmps17
  go_wp2
  go_quiet (fail)
  go_wp2
  go_ret3
  exact ⟨rfl, grown_two _ _ _ _ _, row_two H.out _ _ _⟩
theorem grown_set (w : World) (b j : Nat) (x : Value) (o o' : Obj) (k : Nat) : w.grownBy ((((w.setCell ⟨b, j, none⟩ x).alloc o).alloc o').drewN k) (some b) := by
  have h := grown_two (w.setCell ⟨b, j, none⟩ x) o o' k (some b)
  refine ⟨h.os, h.tape, h.output, by have := h.size; simpa using this, fun i hi hne => ?_⟩
  rw [h.block i (by simpa using hi) hne, Below.heap_setCell _ _ _ _ (fun e => hne (by rw [e]))]

theorem row_set {w : World} {b t n j : Nat} {Z : Nat → Int} {v : Int} (h : w.rowIs b t n (fun i => .int .u8 (Z i))) (hz : Z j = 0) (o o' : Obj) (k : Nat) :
    ((((w.setCell ⟨b, j, none⟩ (.int .u8 v)).alloc o).alloc o').drewN k).rowIs b t n (fun i => .int .u8 (putVote Z j v i)) := by
  refine row_two ((h.set j _).congr fun i _ => ?_) o o' k
  unfold putVote
  by_cases e : i = j
  · rw [if_pos e, if_pos ⟨hz, e⟩]
  · rw [if_neg e, if_neg (fun h => e h.2)]

set_option maxRecDepth 100000 in
set_option maxHeartbeats 800000 in
theorem zzCount_other (b n c j : Nat) (yes v : Int) (Z : Nat → Int) (w : World) (_hn : n ≤ 1048576) (hj : j < n) (hrow : w.rowIs b 40 n (fun i => .int .u8 (Z i))) (hz0 : Z j = 0) (hv1 : (v == 1) = false) (hv2 : (v == 2) = false) :
    Calls Try.prog 17 #[.slice (some ⟨b, 0, none⟩) n c, .int .i64 yes, .int .i64 j, .int .u8 v] w fun e w' =>
      e = .returned (.tuple #[.int .u8 0, .slice (some ⟨b, 0, none⟩) n c, .int .i64 yes]) ∧ w.grownBy w' (some b) ∧ w'.rowIs b 40 n (fun i => .int .u8 (putVote Z j v i)) := by
  have hlt := hrow.lt
  have hc2 : ∀ o o', ((w.alloc o).alloc o').cell? ⟨b, j, none⟩ = some (.int .u8 0) := fun o o' => by rw [← hz0]; exact ((hrow.alloc o).alloc o').cell hj
  have hf2 : ∀ o o', ((w.alloc o).alloc o').frozen? ⟨b, j, none⟩ = false := fun o o' => ((hrow.alloc o).alloc o').frozen j
  have H : Hid (w.rowIs b 40 n (fun i => .int .u8 (Z i)) ∧ Z j = 0) := ⟨hrow, hz0⟩
  clear hrow hz0
  go_enter Try.func17, Try.ntmps17
  go_wp2
  go_quiet (fail)
  go_wp2
  go_ret3
  exact ⟨rfl, grown_set _ _ _ _ _ _ _, row_set H.out.1 H.out.2 _ _ _⟩
set_option maxRecDepth 100000 in
set_option maxHeartbeats 800000 in
theorem zzCount_no (b n c j : Nat) (yes : Int) (Z : Nat → Int) (w : World) (_hn : n ≤ 1048576) (hj : j < n) (hrow : w.rowIs b 40 n (fun i => .int .u8 (Z i))) (hz0 : Z j = 0) :
    Calls Try.prog 17 #[.slice (some ⟨b, 0, none⟩) n c, .int .i64 yes, .int .i64 j, .int .u8 2] w fun e w' =>
      e = .returned (.tuple #[.int .u8 2, .slice (some ⟨b, 0, none⟩) n c, .int .i64 yes]) ∧ w.grownBy w' (some b) ∧ w'.rowIs b 40 n (fun i => .int .u8 (putVote Z j 2 i)) := by
  have hlt := hrow.lt
  have hc2 : ∀ o o', ((w.alloc o).alloc o').cell? ⟨b, j, none⟩ = some (.int .u8 0) := fun o o' => by rw [← hz0]; exact ((hrow.alloc o).alloc o').cell hj
  have hf2 : ∀ o o', ((w.alloc o).alloc o').frozen? ⟨b, j, none⟩ = false := fun o o' => ((hrow.alloc o).alloc o').frozen j
  have H : Hid (w.rowIs b 40 n (fun i => .int .u8 (Z i)) ∧ Z j = 0) := ⟨hrow, hz0⟩
  clear hrow hz0
  go_enter Try.func17, Try.ntmps17
  go_wp2
  go_quiet (fail)
  go_wp2
  go_ret3
  exact ⟨rfl, grown_set _ _ _ _ _ _ _, row_set H.out.1 H.out.2 _ _ _⟩
set_option maxRecDepth 100000 in
set_option maxHeartbeats 800000 in
theorem zzCount_yes (b n c j : Nat) (yes : Int) (Z : Nat → Int) (w : World) (_hn : n ≤ 1048576) (hj : j < n) (hrow : w.rowIs b 40 n (fun i => .int .u8 (Z i))) (hz0 : Z j = 0) (hy0 : 0 ≤ yes) (hy1 : yes ≤ n) (d : Int) (hd : yes + 1 = n ∧ d = 1 ∨ yes + 1 ≠ n ∧ d = 0) :
    Calls Try.prog 17 #[.slice (some ⟨b, 0, none⟩) n c, .int .i64 yes, .int .i64 j, .int .u8 1] w fun e w' =>
      e = .returned (.tuple #[.int .u8 d, .slice (some ⟨b, 0, none⟩) n c, .int .i64 (yes + 1)]) ∧ w.grownBy w' (some b) ∧ w'.rowIs b 40 n (fun i => .int .u8 (putVote Z j 1 i)) := by
  have hlt := hrow.lt
  have hc2 : ∀ o o', ((w.alloc o).alloc o').cell? ⟨b, j, none⟩ = some (.int .u8 0) := fun o o' => by rw [← hz0]; exact ((hrow.alloc o).alloc o').cell hj
  have hf2 : ∀ o o', ((w.alloc o).alloc o').frozen? ⟨b, j, none⟩ = false := fun o o' => ((hrow.alloc o).alloc o').frozen j
  have H : Hid (w.rowIs b 40 n (fun i => .int .u8 (Z i)) ∧ Z j = 0) := ⟨hrow, hz0⟩
  clear hrow hz0
  rcases hd with ⟨hd, rfl⟩ | ⟨hd, rfl⟩
  · have hd' : (yes + 1 == (n : Int)) = true := beq_iff_eq.2 hd
    clear hd
    go_enter Try.func17, Try.ntmps17
    go_wp2
    go_quiet (fail)
    go_wp2
    go_quiet (fail)
    go_wp2
    go_ret3
    exact ⟨rfl, grown_drewN (grown_set _ _ _ _ _ _ _) _, row_drewN (row_set H.out.1 H.out.2 _ _ _) _⟩
  · have hd' : (yes + 1 == (n : Int)) = false := beq_eq_false_iff_ne.2 hd
    clear hd
    go_enter Try.func17, Try.ntmps17
    go_wp2
    go_quiet (fail)
    go_wp2
    go_quiet (fail)
    go_wp2
    go_ret3
    exact ⟨rfl, grown_drewN (grown_set _ _ _ _ _ _ _) _, row_drewN (row_set H.out.1 H.out.2 _ _ _) _⟩
theorem zzCount_any (b n c j : Nat) (yes v : Int) (Z : Nat → Int) (w : World) (hn : n ≤ 1048576) (hj : j < n) (hrow : w.rowIs b 40 n (fun i => .int .u8 (Z i))) (hy0 : 0 ≤ yes) (hy1 : yes ≤ n) :
    Calls Try.prog 17 #[.slice (some ⟨b, 0, none⟩) n c, .int .i64 yes, .int .i64 j, .int .u8 v] w fun e w' =>
      e = .returned (.tuple #[.int .u8 (decOf Z j v yes n), .slice (some ⟨b, 0, none⟩) n c, .int .i64 (yesOf Z j v yes)]) ∧ w.grownBy w' (some b) ∧ w'.rowIs b 40 n (fun i => .int .u8 (putVote Z j v i)) := by
  by_cases hz : Z j = 0
  · by_cases h1 : v = 1
    · subst h1
      have e1 : yesOf Z j 1 yes = yes + 1 := by unfold yesOf; rw [if_pos ⟨hz, rfl⟩]
      rw [e1]
      refine zzCount_yes b n c j yes Z w hn hj hrow hz hy0 hy1 (decOf Z j 1 yes n) ?_
      unfold decOf
      rw [if_pos hz, if_pos rfl]
      by_cases e : yes + 1 = n
      · rw [if_pos e]; exact .inl ⟨e, rfl⟩
      · rw [if_neg e]; exact .inr ⟨e, rfl⟩
    · have e1 : yesOf Z j v yes = yes := by unfold yesOf; rw [if_neg (fun h => h1 h.2)]
      rw [e1]
      by_cases h2 : v = 2
      · subst h2
        have e2 : decOf Z j 2 yes n = 2 := by unfold decOf; rw [if_pos hz, if_neg h1, if_pos rfl]
        rw [e2]
        exact zzCount_no b n c j yes Z w hn hj hrow hz
      · have e2 : decOf Z j v yes n = 0 := by unfold decOf; rw [if_pos hz, if_neg h1, if_neg h2]
        rw [e2]
        exact zzCount_other b n c j yes v Z w hn hj hrow hz (by simpa using h1) (by simpa using h2)
  · have e1 : yesOf Z j v yes = yes := by unfold yesOf; rw [if_neg (fun h => hz h.1)]
    have e2 : decOf Z j v yes n = 0 := by unfold decOf; rw [if_neg hz]
    have e3 : putVote Z j v = Z := by funext i; unfold putVote; rw [if_neg (fun h => hz h.1)]
    rw [e1, e2, e3]
    exact zzCount_old b n c j yes v Z w hn hj hrow (by simpa using hz)

end Go.Proofs.Qxb6603956a
