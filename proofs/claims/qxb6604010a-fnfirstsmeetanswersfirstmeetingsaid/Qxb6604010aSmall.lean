/-
  SEAT b6604010a: WHAT THE SMALL FUNCTIONS DO: zzBytes, slices.Index, ZZNewFirsts, ZZFirstsMet.
-/
import Derived.Test.Qxb6604010aProg
import Derived.Test.Qxb6604010aPlain
import Derived.WalkKit
import Derived.WalkSpells
import Derived.ProofKit
import Derived.Deep.OwnRows
import Derived.Deep.QuietTactic
import Derived.Deep.LoopGhost
import Derived.BigQuiet
namespace Go.Proofs.Qxb6604010a
open Go.RowKit
set_option maxRecDepth 100000

theorem hide {p : Prop} (h : p) : Hid p := h

theorem bytes_ok (a0 a1 : Option Addr) (n0 c0 n1 c1 : Nat) (w : World) (h : n0 + n1 ≤ 1048576) :
    Calls Try.prog 23 #[.slice a0 n0 c0, .slice a1 n1 c1] w fun e w' => e = .returned (.bool true) ∧ w = w' := by
  go_enter Try.func23, Try.ntmps23
  go_wp2
  go_ret
  exact ⟨rfl, rfl⟩

theorem bytes_no (a0 a1 : Option Addr) (n0 c0 n1 c1 : Nat) (w : World) (hm0 : n0 ≤ 9223372036854775807) (hm1 : n1 ≤ 9223372036854775807) (h : 1048576 < n0 + n1) :
    Calls Try.prog 23 #[.slice a0 n0 c0, .slice a1 n1 c1] w fun e w' => e = .returned (.bool false) ∧ w = w' := by
  by_cases h0 : 1048576 < n0
  · go_enter Try.func23, Try.ntmps23
    go_wp2
    go_ret
    exact ⟨rfl, rfl⟩
  · by_cases h1 : 1048576 < n1
    · go_enter Try.func23, Try.ntmps23
      go_wp2
      go_ret
      exact ⟨rfl, rfl⟩
    · go_enter Try.func23, Try.ntmps23
      go_wp2
      go_ret
      exact ⟨rfl, rfl⟩

set_option maxHeartbeats 400000 in
theorem index_some (b off n c j : Nat) (v : Int) (A : Nat → Int) (w : World) (hn : n ≤ 4096) (hc : ∀ i, i < n → w.cell? ⟨b, off + i, none⟩ = some (.int .i32 (A i))) (hj : j < n) (hv : A j = v) (hne : ∀ k, k < j → A k ≠ v) :
    Calls Try.prog 33 #[.slice (some ⟨b, off, none⟩) n c, .int .i32 v] w fun e w' => e = .returned (.int .i64 j) ∧ w' = w := by
  have HC := hide hc
  have HN := hide hne
  have HV := hide hv
  clear hc hne hv
  go_enter Try.func33, Try.ntmps33
  go_wp2
  go_loop [8] (fun i => ∃ k : Nat, k ≤ j ∧ i = .int .i64 k) (fun i => n - (intOf i).toNat)
  case atStart => exact ⟨0, Nat.zero_le _, rfl⟩
  case round =>
    obtain ⟨k, hk, rfl⟩ := hrel
    have hcell := HC.out k (by omega)
    have hkn : (k : Int) < (n : Int) := by omega
    by_cases e : k = j
    · subst e
      rw [HV.out] at hcell
      go_wp2
      go_ret
      exact ⟨rfl, rfl⟩
    · have hq : (v == A k) = false := beq_eq_false_iff_ne.2 (fun h => HN.out k (by omega) h.symm)
      go_wp2
      go_round
      case rel => exact ⟨k + 1, by omega, by go_num⟩
      case measure => simp [intOf]; omega

set_option maxHeartbeats 400000 in
theorem index_none (b off n c : Nat) (v : Int) (A : Nat → Int) (w : World) (hn : n ≤ 4096) (hc : ∀ i, i < n → w.cell? ⟨b, off + i, none⟩ = some (.int .i32 (A i))) (hne : ∀ k, k < n → A k ≠ v) :
    Calls Try.prog 33 #[.slice (some ⟨b, off, none⟩) n c, .int .i32 v] w fun e w' => e = .returned (.int .i64 (-1)) ∧ w' = w := by
  have HC := hide hc
  have HN := hide hne
  clear hc hne
  go_enter Try.func33, Try.ntmps33
  go_wp2
  go_loop [8] (fun i => ∃ k : Nat, k ≤ n ∧ i = .int .i64 k) (fun i => n - (intOf i).toNat)
  case atStart => exact ⟨0, Nat.zero_le _, rfl⟩
  case round =>
    obtain ⟨k, hk, rfl⟩ := hrel
    by_cases e : k < n
    · have hcell := HC.out k e
      have hkn : (k : Int) < (n : Int) := by omega
      have hq : (v == A k) = false := beq_eq_false_iff_ne.2 (fun h => HN.out k (by omega) h.symm)
      go_wp2
      go_round
      case rel => exact ⟨k + 1, by omega, by go_num⟩
      case measure => simp [intOf]; omega
    · obtain rfl : k = n := by omega
      go_wp2
      go_ret
      exact ⟨rfl, rfl⟩

/-- What the eighteen cells of a 'firsts' hold. -/
def cellsOf (n : Nat) (A B : Nat → Int) (m : Option Nat) (i : Nat) : Value :=
  if i = 0 then .int .i64 n else if i < 9 then .int .i32 (A (i - 1)) else if i < 17 then .int .i64 (B (i - 9)) else .map m

theorem cells_0 (n : Nat) (A B : Nat → Int) (m : Option Nat) : cellsOf n A B m 0 = .int .i64 n := rfl
theorem cells_A (n : Nat) (A B : Nat → Int) (m : Option Nat) {j : Nat} (hj : j < 8) : cellsOf n A B m (1 + j) = .int .i32 (A j) := by
  unfold cellsOf
  rw [if_neg (by omega), if_pos (by omega), show 1 + j - 1 = j by omega]
theorem cells_B (n : Nat) (A B : Nat → Int) (m : Option Nat) {j : Nat} (hj : j < 8) : cellsOf n A B m (9 + j) = .int .i64 (B j) := by
  unfold cellsOf
  rw [if_neg (by omega), if_neg (by omega), if_pos (by omega), show 9 + j - 9 = j by omega]
theorem cells_17 (n : Nat) (A B : Nat → Int) (m : Option Nat) : cellsOf n A B m 17 = .map m := rfl

theorem cells_set0 (n n' : Nat) (A B : Nat → Int) (m : Option Nat) (i : Nat) : (if i = 0 then Value.int .i64 n' else cellsOf n A B m i) = cellsOf n' A B m i := by
  unfold cellsOf
  by_cases h : i = 0
  · rw [if_pos h, if_pos h]
  · rw [if_neg h, if_neg h, if_neg h]
theorem cells_setA (n : Nat) (A B : Nat → Int) (m : Option Nat) (v : Int) {j : Nat} (hj : j < 8) (i : Nat) : (if i = 1 + j then Value.int .i32 v else cellsOf n A B m i) = cellsOf n (fun k => if k = j then v else A k) B m i := by
  unfold cellsOf
  by_cases h : i = 1 + j
  · subst h
    rw [if_pos rfl, if_neg (by omega), if_pos (by omega)]
    show _ = Value.int .i32 (if 1 + j - 1 = j then v else A (1 + j - 1))
    rw [if_pos (by omega)]
  · rw [if_neg h]
    by_cases h0 : i = 0
    · rw [if_pos h0, if_pos h0]
    · rw [if_neg h0, if_neg h0]
      by_cases h9 : i < 9
      · rw [if_pos h9, if_pos h9]
        show _ = Value.int .i32 (if i - 1 = j then v else A (i - 1))
        rw [if_neg (by omega)]
      · rw [if_neg h9, if_neg h9]
theorem cells_setB (n : Nat) (A B : Nat → Int) (m : Option Nat) (v : Int) {j : Nat} (hj : j < 8) (i : Nat) : (if i = 9 + j then Value.int .i64 v else cellsOf n A B m i) = cellsOf n A (fun k => if k = j then v else B k) m i := by
  unfold cellsOf
  by_cases h : i = 9 + j
  · subst h
    rw [if_pos rfl, if_neg (by omega), if_neg (by omega), if_pos (by omega)]
    show _ = Value.int .i64 (if 9 + j - 9 = j then v else B (9 + j - 9))
    rw [if_pos (by omega)]
  · rw [if_neg h]
    by_cases h0 : i = 0
    · rw [if_pos h0, if_pos h0]
    · rw [if_neg h0, if_neg h0]
      by_cases h9 : i < 9
      · rw [if_pos h9, if_pos h9]
      · rw [if_neg h9, if_neg h9]
        by_cases h17 : i < 17
        · rw [if_pos h17, if_pos h17]
          show _ = Value.int .i64 (if i - 9 = j then v else B (i - 9))
          rw [if_neg (by omega)]
        · rw [if_neg h17, if_neg h17]
theorem cells_set17 (n : Nat) (A B : Nat → Int) (m m' : Option Nat) (i : Nat) (hi : i < 18) : (if i = 17 then Value.map m' else cellsOf n A B m i) = cellsOf n A B m' i := by
  unfold cellsOf
  by_cases h : i = 17
  · subst h; rfl
  · rw [if_neg h]
    by_cases h0 : i = 0
    · rw [if_pos h0, if_pos h0]
    · rw [if_neg h0, if_neg h0]
      by_cases h9 : i < 9
      · rw [if_pos h9, if_pos h9]
      · rw [if_neg h9, if_neg h9, if_pos (by omega), if_pos (by omega)]

theorem new_any (w : World) :
    Calls Try.prog 24 #[] w fun e w' => e = .returned (.pointer (some ⟨w.heap.size, 0, none⟩)) ∧ w'.rowIs w.heap.size 60 18 (cellsOf 0 (fun _ => 0) (fun _ => 0) none) ∧ Below w.heap.size w w' := by
  go_enter Try.func24, Try.ntmps24
  go_wp2
  go_ret
  refine ⟨rfl, World.rowIs_alloc w _ 60 _ ?_, (Below.refl _ _).alloc (Nat.le_refl _) _⟩
  intro i hi
  have hi' : i < 18 := hi
  clear hi
  rcases i with _ | _ | _ | _ | _ | _ | _ | _ | _ | _ | _ | _ | _ | _ | _ | _ | _ | _ | i
  all_goals first | rfl | omega

theorem met_any (F : Nat) (n : Int) (w : World) (c0 : w.cell? ⟨F, 0, none⟩ = some (.int .i64 n)) :
    Calls Try.prog 26 #[.pointer (some ⟨F, 0, none⟩)] w fun e w' => e = .returned (.int .i64 n) ∧ w = w' := by
  go_enter Try.func26, Try.ntmps26
  go_wp2
  go_ret
  exact ⟨rfl, rfl⟩

end Go.Proofs.Qxb6604010a
