/-
  SEAT b6604010a: WHAT (*firsts).meet DOES, WAY BY WAY.
-/
import Derived.Test.Qxb6604010aSmall
import Derived.Maps.OwnSet
import Derived.Carry
import Derived.BigRegion
namespace Go.Proofs.Qxb6604010a
open Go.RowKit Go.Maps
set_option maxRecDepth 100000

theorem law48 : Keyed Try.prog 48 := int_keyed Try.underlying48
theorem zero3 (w : World) : (zeroValue 3).run Try.prog w = .ok (.int .i64 0) w := by kernel_rfl

theorem len56 : Try.prog.arrayLen 56 = 8 := by kernel_rfl
theorem slice56 (F n : Nat) (hn : n ≤ 8) (w : World) : (Instr.sliceAt 56 (.pointer (some ⟨F, 1, none⟩)) none (some (.int .i64 n)) none).run Try.prog w = .ok (.slice (some ⟨F, 1, none⟩) n 8) w := by
  rw [run_sliceAt_array_h w 56 ⟨F, 1, none⟩ Try.underlying56 .i64 n (by omega) (by rw [len56]; omega), len56]
  have e : (sizeOf (Try.prog.elem 56)).run Try.prog w = .ok 1 w := by kernel_rfl
  rw [e]
  simp [Result.andThen, slicedAt, Addr.add]

section
variable (F n : Nat) (v x : Int) (A B : Nat → Int) (w : World)

theorem below_drewN {B : Nat} {a w : World} (h : Below B a w) (k : Nat) : Below B a (w.drewN k) := ⟨h.os, h.tape, h.output, h.size, h.block⟩

theorem hA_of {F n : Nat} {A B : Nat → Int} {w : World} {m : Option Nat} (h : w.rowIs F 60 18 (cellsOf n A B m)) : ∀ i, i < 8 → w.cell? ⟨F, 1 + i, none⟩ = some (.int .i32 (A i)) :=
  fun i hi => by rw [← cells_A n A B m hi]; exact h.cell (by omega)
theorem hB_of {F n : Nat} {A B : Nat → Int} {w : World} {m : Option Nat} (h : w.rowIs F 60 18 (cellsOf n A B m)) : ∀ i, i < 8 → w.cell? ⟨F, 9 + i, none⟩ = some (.int .i64 (B i)) :=
  fun i hi => by rw [← cells_B n A B m hi]; exact h.cell (by omega)

set_option maxHeartbeats 800000 in
theorem meet_hit (j : Nat) (hn : n ≤ 8) (h : w.rowIs F 60 18 (cellsOf n A B none)) (hj : j < n) (hv : A j = v) (hne : ∀ k, k < j → A k ≠ v) :
    Calls Try.prog 31 #[.pointer (some ⟨F, 0, none⟩), .int .i32 v, .int .i64 x] w fun e w' => e = .returned (.int .i64 (B j)) ∧ ∃ k, w' = w.drewN k := by
  have c0 : w.cell? ⟨F, 0, none⟩ = some (.int .i64 n) := h.cell (by omega)
  have c17 : w.cell? ⟨F, 17, none⟩ = some (.map none) := h.cell (by omega)
  have cB := hB_of h j (by omega)
  have HI := hide (show ∀ w' : World, w'.heap = w.heap → _ from fun w' e => index_some F 1 n 8 j v A w' (by omega) (fun i hi => by have := hA_of h i (by omega); simpa [World.cell?, e] using this) hj hv hne)
  have q58 : ∀ (w : World) (r : Option Nat), (binOp .eql 58 (.map r) (.map none)).run Try.prog w = .ok (.bool r.isNone) w := fun w r => run_eql_map_nil w _ _ _ r Try.underlying58
  have hsl := slice56 F n hn
  clear h hne hv
  go_enter Try.func31, Try.ntmps31
  go_wp2_with fail
  go_quiet ((go_at_call 33; exact Calls.quiet_of_same (HI.out _ rfl)))
  go_wp2
  go_ret
  exact ⟨rfl, _, rfl⟩

/-- Behind a new meeting among the first eight. -/
theorem new_state {F n : Nat} {v x : Int} {A B : Nat → Int} {w : World} (h : w.rowIs F 60 18 (cellsOf n A B none)) (hn : n < 8) :
    (((w.setCell ⟨F, 1 + n, none⟩ (.int .i32 v)).setCell ⟨F, 9 + n, none⟩ (.int .i64 x)).setCell ⟨F, 0, none⟩ (.int .i64 ((n : Int) + 1))).rowIs F 60 18 (cellsOf (n + 1) (fun k => if k = n then v else A k) (fun k => if k = n then x else B k) none) :=
  ((((h.set (1 + n) _).congr (fun i _ => cells_setA n A B none v hn i)).set (9 + n) _).congr (fun i _ => cells_setB n _ B none x hn i)).set 0 _ |>.congr (fun i _ => by rw [show ((n : Int) + 1) = ((n + 1 : Nat) : Int) by omega]; exact cells_set0 n (n + 1) _ _ none i)
theorem new_below {F n base : Nat} {v x : Int} {w : World} (hF : base ≤ F) :
    Below base w (((w.setCell ⟨F, 1 + n, none⟩ (.int .i32 v)).setCell ⟨F, 9 + n, none⟩ (.int .i64 x)).setCell ⟨F, 0, none⟩ (.int .i64 ((n : Int) + 1))) :=
  (((Below.refl _ _).setCell (p := ⟨F, 1 + n, none⟩) hF _).setCell (p := ⟨F, 9 + n, none⟩) hF _).setCell (p := ⟨F, 0, none⟩) hF _

set_option maxHeartbeats 1600000 in
theorem meet_new (base : Nat) (hF : base ≤ F) (hn : n < 8) (h : w.rowIs F 60 18 (cellsOf n A B none)) (hne : ∀ k, k < n → A k ≠ v) :
    Calls Try.prog 31 #[.pointer (some ⟨F, 0, none⟩), .int .i32 v, .int .i64 x] w fun e w' => e = .returned (.int .i64 x) ∧ w'.rowIs F 60 18 (cellsOf (n + 1) (fun k => if k = n then v else A k) (fun k => if k = n then x else B k) none) ∧ Below base w w' := by
  have c0 : w.cell? ⟨F, 0, none⟩ = some (.int .i64 n) := h.cell (by omega)
  have c17 : w.cell? ⟨F, 17, none⟩ = some (.map none) := h.cell (by omega)
  have cA := hA_of h n hn
  have cB := hB_of h n hn
  have f0 := h.frozen 0
  have fA := h.frozen (1 + n)
  have fB := h.frozen (9 + n)
  have HI := hide (show ∀ w' : World, w'.heap = w.heap → _ from fun w' e => index_none F 1 n 8 v A w' (by omega) (fun i hi => by have := hA_of h i (by omega); simpa [World.cell?, e] using this) hne)
  have q58 : ∀ (w : World) (r : Option Nat), (binOp .eql 58 (.map r) (.map none)).run Try.prog w = .ok (.bool r.isNone) w := fun w r => run_eql_map_nil w _ _ _ r Try.underlying58
  have q58n : ∀ (w : World) (r : Option Nat), (binOp .neq 58 (.map r) (.map none)).run Try.prog w = .ok (.bool (!r.isNone)) w := fun w r => run_neq_map_nil w _ _ _ r Try.underlying58
  have hsl := slice56 F n (by omega)
  have H := hide h
  have HB := hide hF
  have hnI : (n : Int) < 8 := by omega
  clear h hne hF
  go_enter Try.func31, Try.ntmps31
  go_wp2_with fail
  go_quiet ((go_at_call 33; exact Calls.quiet_of_same (HI.out _ rfl)))
  go_wp2
  go_region
  all_goals (go_wp2; go_ret)
  all_goals exact ⟨rfl, new_state (w := w.drewN _) H.out hn, (below_drewN (Below.refl _ _) _).trans (new_below HB.out)⟩


/-- How the map's elements read. -/
def owns (w : World) (b N : Nat) (D : DataW Unit) : Prop := w.ownsMap Try.prog 48 (plainElem Try.prog 3) b N D

/-- 'y, ok := f.all[v]', told ahead. -/
theorem look_at {w : World} {b N : Nat} {D : DataW Unit} (h : owns w b N D) {v : Int} (hwv : (Lit.int .i32 v).wf = true) :
    ∃ c, (Instr.lookup 58 (.map (some b)) (.int .i32 v) true).run Try.prog w = .ok (.tuple #[.int .i64 c, .bool (Maps.has D (.int .i32 v))]) w ∧ D.atKey (.int .i32 v) (.lit (.int .i64 0)) = .lit (.int .i64 c) := by
  obtain ⟨u, ps, hrun, hR⟩ := World.ownsMap.look_ok h law48 Try.underlying58 (zero3 w) (plainElem_int Try.underlying3 (by decide)) (keyOf_int_mk Try.underlying48 hwv)
  obtain ⟨c, rfl, hc, _⟩ := plainElem_int_inv Try.underlying3 hR
  simp only [Prod.mk.injEq] at hc
  exact ⟨c, hrun, hc.1⟩

/-- 'f.all[v] = x', told ahead. -/
theorem store_at {w : World} {b N : Nat} {D : DataW Unit} (h : owns w b N D) (hN : N ≤ 5000) {v x : Int} (hwv : (Lit.int .i32 v).wf = true) (hwx : (Lit.int .i64 x).wf = true) :
    ∃ w', (Instr.mapUpdate 58 (.map (some b)) (.int .i32 v) (.int .i64 x)).run Try.prog w = .ok () w' ∧ owns w' b (N + 1) (D.put (.int .i32 v) (.lit (.int .i64 x))) ∧ w.grownBy w' (some b) :=
  World.ownsMap.update h law48 Try.underlying58 (by unfold maxLen; omega) (keyOf_int_mk Try.underlying48 hwv) (plainElem_int Try.underlying3 hwx)

set_option maxHeartbeats 800000 in
theorem meet_known (bm N : Nat) (D : DataW Unit) (y : Int) (h : w.rowIs F 60 18 (cellsOf n A B (some bm))) (ho : owns w bm N D) (hwv : (Lit.int .i32 v).wf = true) (hh : Maps.has D (.int .i32 v) = true) (hy : D.atKey (.int .i32 v) (.lit (.int .i64 0)) = .lit (.int .i64 y)) :
    Calls Try.prog 31 #[.pointer (some ⟨F, 0, none⟩), .int .i32 v, .int .i64 x] w fun e w' => e = .returned (.int .i64 y) ∧ w' = w := by
  have c17 : w.cell? ⟨F, 17, none⟩ = some (.map (some bm)) := h.cell (by omega)
  obtain ⟨c, hrun, hc⟩ := look_at ho hwv
  rw [hy] at hc
  injection hc with hc
  injection hc with _ hc
  subst hc
  rw [hh] at hrun
  have q58 : ∀ (w : World) (r : Option Nat), (binOp .eql 58 (.map r) (.map none)).run Try.prog w = .ok (.bool r.isNone) w := fun w r => run_eql_map_nil w _ _ _ r Try.underlying58
  clear h ho hy hh
  go_enter Try.func31, Try.ntmps31
  go_wp2
  go_ret
  exact ⟨rfl, rfl⟩

set_option maxHeartbeats 800000 in
theorem meet_more (base bm N : Nat) (D : DataW Unit) (hF : base ≤ F) (hb : base ≤ bm) (hbw : base ≤ w.heap.size) (hn : n ≤ 5000) (hN : N ≤ 5000) (hFb : F ≠ bm) (h : w.rowIs F 60 18 (cellsOf n A B (some bm))) (ho : owns w bm N D) (hwv : (Lit.int .i32 v).wf = true) (hwx : (Lit.int .i64 x).wf = true) (hh : Maps.has D (.int .i32 v) = false) :
    Calls Try.prog 31 #[.pointer (some ⟨F, 0, none⟩), .int .i32 v, .int .i64 x] w fun e w' => e = .returned (.int .i64 x) ∧ w'.rowIs F 60 18 (cellsOf (n + 1) A B (some bm)) ∧ owns w' bm (N + 1) (D.put (.int .i32 v) (.lit (.int .i64 x))) ∧ Below base w w' := by
  have c17 : w.cell? ⟨F, 17, none⟩ = some (.map (some bm)) := h.cell (by omega)
  obtain ⟨c, hrun, hc⟩ := look_at ho hwv
  rw [hh] at hrun
  obtain ⟨w1, hrun2, ho1, hg⟩ := store_at ho hN hwv hwx
  have h1 : w1.rowIs F 60 18 (cellsOf n A B (some bm)) := h.of_block (hg.block F h.lt (by simp [hFb]))
  have d0 : w1.cell? ⟨F, 0, none⟩ = some (.int .i64 n) := h1.cell (by omega)
  have f0 := h1.frozen 0
  have q58 : ∀ (w : World) (r : Option Nat), (binOp .eql 58 (.map r) (.map none)).run Try.prog w = .ok (.bool r.isNone) w := fun w r => run_eql_map_nil w _ _ _ r Try.underlying58
  have q58n : ∀ (w : World) (r : Option Nat), (binOp .neq 58 (.map r) (.map none)).run Try.prog w = .ok (.bool (!r.isNone)) w := fun w r => run_neq_map_nil w _ _ _ r Try.underlying58
  have HR := hide (show (w1.setCell ⟨F, 0, none⟩ (.int .i64 ((n : Int) + 1))).rowIs F 60 18 (cellsOf (n + 1) A B (some bm)) ∧ owns (w1.setCell ⟨F, 0, none⟩ (.int .i64 ((n : Int) + 1))) bm (N + 1) (D.put (.int .i32 v) (.lit (.int .i64 x))) ∧ Below base w (w1.setCell ⟨F, 0, none⟩ (.int .i64 ((n : Int) + 1))) from
    ⟨(h1.set 0 _).congr (fun i _ => by rw [show ((n : Int) + 1) = ((n + 1 : Nat) : Int) by omega]; exact cells_set0 n (n + 1) _ _ _ i), World.ownsMap.setCell ho1 (a := ⟨F, 0, none⟩) (fun e => hFb e.symm) _, ((Below.refl _ _).grown hg hbw (fun k e => by cases e; exact hb)).setCell (p := ⟨F, 0, none⟩) hF _⟩)
  clear h h1 ho ho1 hg hc hh
  go_enter Try.func31, Try.ntmps31
  go_wp2
  go_ret
  exact ⟨rfl, HR.out⟩

end
end Go.Proofs.Qxb6604010a
