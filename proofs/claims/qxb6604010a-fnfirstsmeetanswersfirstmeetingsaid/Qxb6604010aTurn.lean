/-
  SEAT b6604010a: (*firsts).meet AT THE NINTH VARIABLE: THE MAP IS MADE AND FILLED.
-/
import Derived.Test.Qxb6604010aMeet
namespace Go.Proofs.Qxb6604010a
open Go.RowKit Go.Maps
set_option maxRecDepth 100000

/-- The map behind k of the eight. -/
def mapOf (A B : Nat → Int) : Nat → DataW Unit
  | 0 => .map []
  | k + 1 => (mapOf A B k).put (.int .i32 (A k)) (.lit (.int .i64 (B k)))

theorem index56 (A : Nat → Int) (k : Nat) (hk : k < 8) (w : World) :
    (Instr.index 56 (.agg #[.int .i32 (A 0), .int .i32 (A 1), .int .i32 (A 2), .int .i32 (A 3), .int .i32 (A 4), .int .i32 (A 5), .int .i32 (A 6), .int .i32 (A 7)]) (.int .i64 (k : Int))).run Try.prog w = .ok (.int .i32 (A k)) w := by
  rcases k with _ | _ | _ | _ | _ | _ | _ | _ | k
  all_goals first | (exfalso; omega) | kernel_rfl

set_option maxHeartbeats 1600000 in
theorem meet_turn (F : Nat) (v x : Int) (A B : Nat → Int) (w : World) (base : Nat) (hF : base ≤ F) (hbw : base ≤ w.heap.size) (h : w.rowIs F 60 18 (cellsOf 8 A B none)) (hne : ∀ k, k < 8 → A k ≠ v)
    (hwA : ∀ k, k < 8 → (Lit.int .i32 (A k)).wf = true) (hwB : ∀ k, k < 8 → (Lit.int .i64 (B k)).wf = true) (hwv : (Lit.int .i32 v).wf = true) (hwx : (Lit.int .i64 x).wf = true) :
    Calls Try.prog 31 #[.pointer (some ⟨F, 0, none⟩), .int .i32 v, .int .i64 x] w fun e w' => e = .returned (.int .i64 x) ∧ ∃ bm, base ≤ bm ∧ F ≠ bm ∧ w'.rowIs F 60 18 (cellsOf 9 A B (some bm)) ∧ owns w' bm 9 ((mapOf A B 8).put (.int .i32 v) (.lit (.int .i64 x))) ∧ Below base w w' := by
  have c0 : w.cell? ⟨F, 0, none⟩ = some (.int .i64 8) := h.cell (by omega)
  have c17 : w.cell? ⟨F, 17, none⟩ = some (.map none) := h.cell (by omega)
  have d17 : ∀ q o, ((w.drewN q).alloc o).cell? ⟨F, 17, none⟩ = some (.map none) := fun q o => (World.rowIs.alloc (w := w.drewN q) h o).cell (by omega)
  have f17 : ∀ q o, ((w.drewN q).alloc o).frozen? ⟨F, 17, none⟩ = false := fun q o => (World.rowIs.alloc (w := w.drewN q) h o).frozen 17
  have hlt := h.lt
  have HI := hide (show ∀ w' : World, w'.heap = w.heap → _ from fun w' e => index_none F 1 8 8 v A w' (by omega) (fun i hi => by have := hA_of h i (by omega); simpa [World.cell?, e] using this) hne)
  have q58 : ∀ (w : World) (r : Option Nat), (binOp .eql 58 (.map r) (.map none)).run Try.prog w = .ok (.bool r.isNone) w := fun w r => run_eql_map_nil w _ _ _ r Try.underlying58
  have q58n : ∀ (w : World) (r : Option Nat), (binOp .neq 58 (.map r) (.map none)).run Try.prog w = .ok (.bool (!r.isNone)) w := fun w r => run_neq_map_nil w _ _ _ r Try.underlying58
  have hsl := slice56 F 8 (by omega)
  have hmm := @run_makeMap Try.prog
  have H := hide h
  have HB := hide hF
  have HW := hide hwA
  have HX := hide hwB
  have A0 : ∀ q o, ((w.drewN q).alloc o).cell? ⟨F, 1, none⟩ = some (.int .i32 (A 0)) := fun q o => hA_of (World.rowIs.alloc (w := w.drewN q) h o) 0 (by omega)
  have A1 : ∀ q o, ((w.drewN q).alloc o).cell? ⟨F, 2, none⟩ = some (.int .i32 (A 1)) := fun q o => hA_of (World.rowIs.alloc (w := w.drewN q) h o) 1 (by omega)
  have A2 : ∀ q o, ((w.drewN q).alloc o).cell? ⟨F, 3, none⟩ = some (.int .i32 (A 2)) := fun q o => hA_of (World.rowIs.alloc (w := w.drewN q) h o) 2 (by omega)
  have A3 : ∀ q o, ((w.drewN q).alloc o).cell? ⟨F, 4, none⟩ = some (.int .i32 (A 3)) := fun q o => hA_of (World.rowIs.alloc (w := w.drewN q) h o) 3 (by omega)
  have A4 : ∀ q o, ((w.drewN q).alloc o).cell? ⟨F, 5, none⟩ = some (.int .i32 (A 4)) := fun q o => hA_of (World.rowIs.alloc (w := w.drewN q) h o) 4 (by omega)
  have A5 : ∀ q o, ((w.drewN q).alloc o).cell? ⟨F, 6, none⟩ = some (.int .i32 (A 5)) := fun q o => hA_of (World.rowIs.alloc (w := w.drewN q) h o) 5 (by omega)
  have A6 : ∀ q o, ((w.drewN q).alloc o).cell? ⟨F, 7, none⟩ = some (.int .i32 (A 6)) := fun q o => hA_of (World.rowIs.alloc (w := w.drewN q) h o) 6 (by omega)
  have A7 : ∀ q o, ((w.drewN q).alloc o).cell? ⟨F, 8, none⟩ = some (.int .i32 (A 7)) := fun q o => hA_of (World.rowIs.alloc (w := w.drewN q) h o) 7 (by omega)
  clear h hne hF hwA hwB
  go_enter Try.func31, Try.ntmps31
  go_wp2_with fail
  go_quiet ((go_at_call 33; exact Calls.quiet_of_same (HI.out _ rfl)))
  go_wp2
  have HS := hide (show (((w.drewN nq).alloc (Obj.map #[] 0)).setCell ⟨F, 17, none⟩ (.map (some w.heap.size))).rowIs F 60 18 (cellsOf 8 A B (some w.heap.size)) ∧ owns (((w.drewN nq).alloc (Obj.map #[] 0)).setCell ⟨F, 17, none⟩ (.map (some w.heap.size))) w.heap.size 0 (mapOf A B 0) ∧ Below base w (((w.drewN nq).alloc (Obj.map #[] 0)).setCell ⟨F, 17, none⟩ (.map (some w.heap.size))) from
    ⟨((World.rowIs.alloc (w := w.drewN nq) H.out _).set 17 _).congr (fun i hi => cells_set17 8 A B none _ i hi),
     World.ownsMap.setCell (World.ownsMap_made (w.drewN nq) Try.prog 48 (plainElem Try.prog 3)) (a := ⟨F, 17, none⟩) (fun e => Nat.ne_of_lt hlt e.symm) _,
     ((below_drewN (Below.refl _ _) nq).alloc hbw _).setCell (p := ⟨F, 17, none⟩) HB.out _⟩)
  clear A0 A1 A2 A3 A4 A5 A6 A7 d17 f17 c0 c17 hmm hsl
  go_loopw [54] (fun i wr => ∃ k : Nat, k ≤ 8 ∧ i = .int .i64 k ∧ wr.rowIs F 60 18 (cellsOf 8 A B (some w.heap.size)) ∧ owns wr w.heap.size k (mapOf A B k) ∧ Below base w wr) (fun i _ => 8 - (intOf i).toNat)
  case atStart => exact ⟨0, by omega, rfl, HS.out.1, HS.out.2.1, HS.out.2.2⟩
  case round =>
    obtain ⟨k, hk, rfl, hrow, ho, hbel⟩ := hrel
    have hsz := hbel.size
    by_cases hlt8 : k < 8
    · have hx := index56 A k hlt8
      have e17 : wr.cell? ⟨F, 17, none⟩ = some (.map (some w.heap.size)) := hrow.cell (by omega)
      have eB := hB_of hrow k hlt8
      obtain ⟨w1, hrun, ho1, hg⟩ := store_at (w := wr.drew) ho (by omega) (HW.out k hlt8) (HX.out k hlt8)
      have HR := hide (show w1.rowIs F 60 18 (cellsOf 8 A B (some w.heap.size)) ∧ owns w1 w.heap.size (k + 1) (mapOf A B (k + 1)) ∧ Below base w w1 from
        ⟨hrow.of_block (hg.block F hrow.lt (by simp; omega)), ho1, hbel.drew.grown hg (by show base ≤ wr.heap.size; omega) (fun k e => by cases e; exact hbw)⟩)
      have hkI : (k : Int) < 8 := by omega
      clear hrow ho ho1 hg hbel
      go_wp2
      go_region
      all_goals
        go_wp2
        go_roundw
        case rel => exact ⟨k + 1, by omega, by go_num, HR.out.1, HR.out.2.1, HR.out.2.2⟩
        case measure => simp [intOf]; omega
    · obtain rfl : k = 8 := by omega
      have e17 : wr.cell? ⟨F, 17, none⟩ = some (.map (some w.heap.size)) := hrow.cell (by omega)
      obtain ⟨w1, hrun, ho1, hg⟩ := store_at (w := wr) ho (by omega) hwv hwx
      have h1 : w1.rowIs F 60 18 (cellsOf 8 A B (some w.heap.size)) := hrow.of_block (hg.block F hrow.lt (by simp; omega))
      have d0 : w1.cell? ⟨F, 0, none⟩ = some (.int .i64 8) := h1.cell (by omega)
      have f0 := h1.frozen 0
      have HR := hide (show (w1.setCell ⟨F, 0, none⟩ (.int .i64 9)).rowIs F 60 18 (cellsOf 9 A B (some w.heap.size)) ∧ owns (w1.setCell ⟨F, 0, none⟩ (.int .i64 9)) w.heap.size 9 ((mapOf A B 8).put (.int .i32 v) (.lit (.int .i64 x))) ∧ Below base w (w1.setCell ⟨F, 0, none⟩ (.int .i64 9)) from
        ⟨(h1.set 0 _).congr (fun i _ => cells_set0 8 9 _ _ _ i), World.ownsMap.setCell ho1 (a := ⟨F, 0, none⟩) (fun e => Nat.ne_of_lt hlt e.symm) _, (hbel.grown hg (by omega) (fun k e => by cases e; exact hbw)).setCell (p := ⟨F, 0, none⟩) HB.out _⟩)
      clear hrow ho ho1 hg hbel h1
      go_wp2
      go_ret
      exact ⟨rfl, w.heap.size, hbw, Nat.ne_of_lt hlt, HR.out.1, HR.out.2.1, HR.out.2.2⟩
end Go.Proofs.Qxb6604010a
