/-
  SEAT b6603956a: WHAT THE SMALL FUNCTIONS DO: cntYes, cntCloneBytes, askCloneInts.
-/
import Derived.Test.Qxb6603956aProg
import Derived.Test.Qxb6603956aPlain
import Derived.WalkKit
import Derived.WalkSpells
import Derived.ProofKit
import Derived.Deep.OwnRows
import Derived.Deep.QuietTactic
import Derived.BigQuiet
namespace Go.Proofs.Qxb6603956a
open Go.RowKit

theorem info3 : (Try.prog.info? 3).map (fun i => (i.zero, i.size, i.bytes)) = some (some (.int .i64 0), 1, 8) := by kernel_rfl
theorem info5 : (Try.prog.info? 5).map (fun i => (i.zero, i.size, i.bytes)) = some (some (.int .u8 0), 1, 1) := by kernel_rfl
theorem info40 : (Try.prog.info? 40).map (fun i => (i.zero, i.size, i.bytes)) = some (some (.int .u8 0), 1, 1) := by kernel_rfl

theorem ret_int {k : IntKind} {a b : Int} (h : a = b) : Ending.returned (.int k a) = .returned (.int k b) := by rw [h]

set_option maxHeartbeats 400000 in
theorem cntYes_any (b off n c : Nat) (Z : Nat → Int) (w : World) (hn : n ≤ 1048576) (hc : ∀ i, i < n → w.cell? ⟨b, off + i, none⟩ = some (.int .u8 (Z i))) :
    Calls Try.prog 15 #[.slice (some ⟨b, off, none⟩) n c] w fun e w' => e = .returned (.int .i64 (cntIf (fun i => Z i == 1) n)) ∧ w = w' := by
  go_enter Try.func15, Try.ntmps15
  go_wp2
  go_loop [3, 4] (fun t i => ∃ k : Nat, k ≤ n ∧ i = .int .i64 k ∧ t = .int .i64 (cntIf (fun i => Z i == 1) k)) (fun _ i => n - (intOf i).toNat)
  case atStart => exact ⟨0, Nat.zero_le _, rfl, rfl⟩
  case round =>
    obtain ⟨k, hk, rfl, rfl⟩ := hrel
    have hle := cntIf_le (fun i => Z i == 1) k
    by_cases hlt : k < n
    · have hcell := hc k hlt
      have HS : Hid (cntIf (fun i => Z i == 1) (k + 1) = cntIf (fun i => Z i == 1) k + (if Z k == 1 then 1 else 0)) := rfl
      by_cases hz : (Z k == 1) = true
      · go_wp2
        go_round
        case rel => exact ⟨k + 1, by omega, by go_num, by rw [HS.out, if_pos hz]; go_num⟩
        case measure => simp [intOf]; omega
      · have hz' : (Z k == 1) = false := by simpa using hz
        go_wp2
        go_round
        case rel => exact ⟨k + 1, by omega, by go_num, by rw [HS.out, if_neg hz]; go_num⟩
        case measure => simp [intOf]; omega
    · obtain rfl : k = n := by omega
      go_wp2
      go_ret
      exact ⟨rfl, rfl⟩

/-- What a clone is: nil stays nil; else a new row of the same numbers at the heap's end. -/
def cloned (k : IntKind) (t : TypeId) (w w' : World) (a : Option Addr) (n : Nat) (Z : Nat → Int) (v : Value) : Prop :=
  (a = none ∧ v = .slice none 0 0 ∧ w' = w) ∨
  (v = .slice (some ⟨w.heap.size, 0, none⟩) n n ∧ w'.heap.size = w.heap.size + 1 ∧ w'.rowIs w.heap.size t n (fun i => .int k (Z i)) ∧ Below w.heap.size w w')

theorem clone_step {w wr : World} {k : IntKind} {t : TypeId} {n j : Nat} {Z : Nat → Int} (h : wr.rowIs w.heap.size t n (fun i => if i < j then .int k (Z i) else .int k 0)) :
    (wr.setCell ⟨w.heap.size, j, none⟩ (.int k (Z j))).rowIs w.heap.size t n (fun i => if i < j + 1 then .int k (Z i) else .int k 0) := by
  refine (h.set j (.int k (Z j))).congr fun i _ => ?_
  by_cases e : i = j
  · subst e; simp
  · by_cases hlt : i < j
    · rw [if_neg e, if_pos hlt, if_pos (by omega)]
    · rw [if_neg e, if_neg hlt, if_neg (by omega)]

set_option maxRecDepth 100000 in
set_option maxHeartbeats 400000 in
theorem cloneBytes_some (x : Addr) (n c : Nat) (Z : Nat → Int) (w : World) (hn : n ≤ 1048576) (hc : ∀ i, i < n → w.cell? (x.add i) = some (.int .u8 (Z i))) :
    Calls Try.prog 16 #[.slice (some x) n c] w fun e w' => ∃ v, e = .returned v ∧ cloned .u8 5 w w' (some x) n Z v := by
  have hmk := run_make_row' (P := Try.prog) 35 5 (.int .u8 0) 1 Try.underlying35 info5 rfl .i64 .i64 n (by omega) (by omega)
  have q35 : ∀ (w : World) (a : Option Addr) (n c n' c' : Nat), (binOp .eql 35 (.slice a n c) (.slice none n' c')).run Try.prog w = .ok (.bool a.isNone) w := fun w a n c n' c' => Lib.run_eql_slice_nil w _ _ a n c n' c' Try.underlying35
  have hz := World.rowIs_made w (.int .u8 0) n 5
  have hB : Below w.heap.size w (w.alloc (.cells (madeCells #[.int .u8 0] n) 5)) := (Below.refl _ _).alloc (Nat.le_refl _) _
  have hS : (w.alloc (.cells (madeCells #[.int .u8 0] n) 5)).heap.size = w.heap.size + 1 := by simp
  go_enter Try.func16, Try.ntmps16
  go_wp2
  go_loopw [4] (fun i wr => ∃ k : Nat, k ≤ n ∧ i = .int .i64 k ∧ wr.heap.size = w.heap.size + 1 ∧ wr.rowIs w.heap.size 5 n (fun i => if i < k then .int .u8 (Z i) else .int .u8 0) ∧ Below w.heap.size w wr) (fun i _ => n - (intOf i).toNat)
  case atStart => exact ⟨0, Nat.zero_le _, rfl, hS, hz.congr (fun i _ => by simp), hB⟩
  case round =>
    obtain ⟨k, hk, rfl, hsz, hrow, hbel⟩ := hrel
    by_cases hlt : k < n
    · obtain ⟨b, off, spot⟩ := x
      obtain rfl : spot = none := by simpa [Addr.add] using World.cell?_spot (hc 0 (by omega))
      have hcell : wr.cell? ⟨b, off + k, none⟩ = some (.int .u8 (Z k)) := cell_later hbel (by rw [← Go.WideShapes.add_plain]; exact hc k hlt)
      have hfz := hrow.frozen k
      have hold := hrow.cell hlt
      rw [if_neg (by omega)] at hold
      have hstep := clone_step hrow
      have HR : Hid ((wr.setCell ⟨w.heap.size, k, none⟩ (.int .u8 (Z k))).heap.size = w.heap.size + 1 ∧ (wr.setCell ⟨w.heap.size, k, none⟩ (.int .u8 (Z k))).rowIs w.heap.size 5 n (fun i => if i < k + 1 then .int .u8 (Z i) else .int .u8 0) ∧ Below w.heap.size w (wr.setCell ⟨w.heap.size, k, none⟩ (.int .u8 (Z k)))) :=
        ⟨by simp [hsz], hstep, hbel.setCell (Nat.le_refl _) _⟩
      clear hstep hrow hbel hc hz hB hS
      go_wp2
      go_roundw
      case rel => exact ⟨k + 1, by omega, by go_num, HR.out.1, HR.out.2.1, HR.out.2.2⟩
      case measure => simp [intOf]; omega
    · obtain rfl : k = n := by omega
      go_wp2
      go_ret
      exact ⟨_, rfl, .inr ⟨rfl, hsz, hrow.congr (fun i hi => by rw [if_pos hi]), hbel⟩⟩

theorem cloneBytes_none (Z : Nat → Int) (w : World) :
    Calls Try.prog 16 #[.slice none 0 0] w fun e w' => ∃ v, e = .returned v ∧ cloned .u8 5 w w' none 0 Z v := by
  have q35 : ∀ (w : World) (a : Option Addr) (n c n' c' : Nat), (binOp .eql 35 (.slice a n c) (.slice none n' c')).run Try.prog w = .ok (.bool a.isNone) w := fun w a n c n' c' => Lib.run_eql_slice_nil w _ _ a n c n' c' Try.underlying35
  go_enter Try.func16, Try.ntmps16
  go_wp2
  go_ret
  exact ⟨_, rfl, .inl ⟨rfl, rfl, rfl⟩⟩

set_option maxRecDepth 100000 in
set_option maxHeartbeats 400000 in
theorem cloneInts_some (x : Addr) (n c : Nat) (Z : Nat → Int) (w : World) (hn : n ≤ 1048576) (hc : ∀ i, i < n → w.cell? (x.add i) = some (.int .i64 (Z i))) :
    Calls Try.prog 19 #[.slice (some x) n c] w fun e w' => ∃ v, e = .returned v ∧ cloned .i64 3 w w' (some x) n Z v := by
  have hmk := run_make_row' (P := Try.prog) 31 3 (.int .i64 0) 8 Try.underlying31 info3 rfl .i64 .i64 n (by omega) (by omega)
  have q31 : ∀ (w : World) (a : Option Addr) (n c n' c' : Nat), (binOp .eql 31 (.slice a n c) (.slice none n' c')).run Try.prog w = .ok (.bool a.isNone) w := fun w a n c n' c' => Lib.run_eql_slice_nil w _ _ a n c n' c' Try.underlying31
  have hz := World.rowIs_made w (.int .i64 0) n 3
  have hB : Below w.heap.size w (w.alloc (.cells (madeCells #[.int .i64 0] n) 3)) := (Below.refl _ _).alloc (Nat.le_refl _) _
  have hS : (w.alloc (.cells (madeCells #[.int .i64 0] n) 3)).heap.size = w.heap.size + 1 := by simp
  go_enter Try.func19, Try.ntmps19
  go_wp2
  go_loopw [4] (fun i wr => ∃ k : Nat, k ≤ n ∧ i = .int .i64 k ∧ wr.heap.size = w.heap.size + 1 ∧ wr.rowIs w.heap.size 3 n (fun i => if i < k then .int .i64 (Z i) else .int .i64 0) ∧ Below w.heap.size w wr) (fun i _ => n - (intOf i).toNat)
  case atStart => exact ⟨0, Nat.zero_le _, rfl, hS, hz.congr (fun i _ => by simp), hB⟩
  case round =>
    obtain ⟨k, hk, rfl, hsz, hrow, hbel⟩ := hrel
    by_cases hlt : k < n
    · obtain ⟨b, off, spot⟩ := x
      obtain rfl : spot = none := by simpa [Addr.add] using World.cell?_spot (hc 0 (by omega))
      have hcell : wr.cell? ⟨b, off + k, none⟩ = some (.int .i64 (Z k)) := cell_later hbel (by rw [← Go.WideShapes.add_plain]; exact hc k hlt)
      have hfz := hrow.frozen k
      have hold := hrow.cell hlt
      rw [if_neg (by omega)] at hold
      have hstep := clone_step hrow
      have HR : Hid ((wr.setCell ⟨w.heap.size, k, none⟩ (.int .i64 (Z k))).heap.size = w.heap.size + 1 ∧ (wr.setCell ⟨w.heap.size, k, none⟩ (.int .i64 (Z k))).rowIs w.heap.size 3 n (fun i => if i < k + 1 then .int .i64 (Z i) else .int .i64 0) ∧ Below w.heap.size w (wr.setCell ⟨w.heap.size, k, none⟩ (.int .i64 (Z k)))) :=
        ⟨by simp [hsz], hstep, hbel.setCell (Nat.le_refl _) _⟩
      clear hstep hrow hbel hc hz hB hS
      go_wp2
      go_roundw
      case rel => exact ⟨k + 1, by omega, by go_num, HR.out.1, HR.out.2.1, HR.out.2.2⟩
      case measure => simp [intOf]; omega
    · obtain rfl : k = n := by omega
      go_wp2
      go_ret
      exact ⟨_, rfl, .inr ⟨rfl, hsz, hrow.congr (fun i hi => by rw [if_pos hi]), hbel⟩⟩

theorem cloneInts_none (Z : Nat → Int) (w : World) :
    Calls Try.prog 19 #[.slice none 0 0] w fun e w' => ∃ v, e = .returned v ∧ cloned .i64 3 w w' none 0 Z v := by
  have q31 : ∀ (w : World) (a : Option Addr) (n c n' c' : Nat), (binOp .eql 31 (.slice a n c) (.slice none n' c')).run Try.prog w = .ok (.bool a.isNone) w := fun w a n c n' c' => Lib.run_eql_slice_nil w _ _ a n c n' c' Try.underlying31
  go_enter Try.func19, Try.ntmps19
  go_wp2
  go_ret
  exact ⟨_, rfl, .inl ⟨rfl, rfl, rfl⟩⟩

end Go.Proofs.Qxb6603956a
