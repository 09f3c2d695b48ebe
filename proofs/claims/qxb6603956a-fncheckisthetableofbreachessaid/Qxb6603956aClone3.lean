/-
  SEAT b6603956a: chkClone and chkOutcomes: rows of outcomes copied.
-/
import Derived.Test.Qxb6603956aChk
import Derived.BigRegion
namespace Go.Proofs.Qxb6603956a
open Go.RowKit
set_option maxRecDepth 100000

/-- The first k triples of a row are those outcomes. -/
def Upto (f : Nat → Value) (k : Nat) (P T D : Nat → Int) : Prop :=
  ∀ i, i < k → f (i * 3) = .int .i64 (P i) ∧ f (i * 3 + 1) = .int .u8 (T i) ∧ f (i * 3 + 1 + 1) = .int .u8 (D i)

def put3 (f : Nat → Value) (k : Nat) (p t d : Value) : Nat → Value := fun j => if j = k * 3 + 1 + 1 then d else if j = k * 3 + 1 then t else if j = k * 3 then p else f j

theorem upto_put {f : Nat → Value} {k : Nat} {P T D : Nat → Int} (h : Upto f k P T D) : Upto (put3 f k (.int .i64 (P k)) (.int .u8 (T k)) (.int .u8 (D k))) (k + 1) P T D := by
  intro i hi
  unfold put3
  by_cases e : i = k
  · subst e
    refine ⟨?_, ?_, ?_⟩
    · rw [if_neg (by omega), if_neg (by omega), if_pos rfl]
    · rw [if_neg (by omega), if_pos rfl]
    · rw [if_pos rfl]
  · obtain ⟨h1, h2, h3⟩ := h i (by omega)
    refine ⟨?_, ?_, ?_⟩
    · rw [if_neg (by omega), if_neg (by omega), if_neg (by omega)]; exact h1
    · rw [if_neg (by omega), if_neg (by omega), if_neg (by omega)]; exact h2
    · rw [if_neg (by omega), if_neg (by omega), if_neg (by omega)]; exact h3

theorem row_put3 {w : World} {b t m : Nat} {f : Nat → Value} (h : w.rowIs b t m f) (k : Nat) (x y z : Value) :
    (((w.setCell ⟨b, k * 3, none⟩ x).setCell ⟨b, k * 3 + 1, none⟩ y).setCell ⟨b, k * 3 + 1 + 1, none⟩ z).rowIs b t m (put3 f k x y z) :=
  ((h.set _ x).set _ y).set _ z

theorem trip_of {w : World} {b t n : Nat} {f : Nat → Value} {P T D : Nat → Int} (h : w.rowIs b t (n * 3) f) (hu : Upto f n P T D) : Trip w b n P T D := fun i hi => by
  obtain ⟨h1, h2, h3⟩ := hu i hi
  exact ⟨by rw [h.cell (i := i * 3) (by omega), h1], by rw [h.cell (i := i * 3 + 1) (by omega), h2], by rw [h.cell (i := i * 3 + 1 + 1) (by omega), h3]⟩

/-- What make lays of outcomes. -/
theorem row_made3 (w : World) (t n : Nat) : ∃ f, (w.alloc (.cells (madeCells #[.int .i64 0, .int .u8 0, .int .u8 0] (n * 3)) t)).rowIs w.heap.size t (n * 3) f :=
  ⟨fun i => (madeCells #[.int .i64 0, .int .u8 0, .int .u8 0] (n * 3)).getD i default, _, Go.Deep.blk_alloc_new _ _, size_madeCells _ _, fun i hi => by
    have : i < (madeCells #[.int .i64 0, .int .u8 0, .int .u8 0] (n * 3)).size := by rw [size_madeCells]; exact hi
    simp [Array.getD, this]⟩

theorem make3 (t e : TypeId) (ht : Try.prog.underlying t = some (.slice e)) (hinfo : (Try.prog.info? e).map (fun i => (i.zero, i.size, i.bytes)) = some (some (.agg #[.int .i64 0, .int .u8 0, .int .u8 0]), 3, 16)) (n : Nat) (hn : n ≤ 4096) (w : World) :
    (Instr.makeSlice t (.int .i64 (n : Int)) (.int .i64 (n : Int))).run Try.prog w = .ok (.slice (some ⟨w.heap.size, 0, none⟩) n n) (w.alloc (.cells (madeCells #[.int .i64 0, .int .u8 0, .int .u8 0] (n * 3)) e)) := by
  obtain ⟨i, hi, hzz⟩ := Option.map_eq_some_iff.1 hinfo
  simp only [Prod.mk.injEq] at hzz
  obtain ⟨hz, hs, hb⟩ := hzz
  have h := run_make (P := Try.prog) w t e i _ ht hi hz .i64 .i64 (n : Int) (n : Int) (by omega) (Int.le_refl _) (by rw [hb]; omega) (by omega)
  rw [hs] at h
  simpa [Value.cells] using h


theorem info67 : (Try.prog.info? 67).map (fun i => (i.zero, i.size, i.bytes)) = some (some (.agg #[.int .i64 0, .int .u8 0, .int .u8 0]), 3, 16) := by kernel_rfl
theorem info69 : (Try.prog.info? 69).map (fun i => (i.zero, i.size, i.bytes)) = some (some (.agg #[.int .i64 0, .int .u8 0, .int .u8 0]), 3, 16) := by kernel_rfl

set_option maxHeartbeats 800000 in
theorem chkClone_some (b off n c : Nat) (P T D : Nat → Int) (w : World) (hn : n ≤ 4096)
    (hc : ∀ i, i < n → w.cell? ⟨b, off + i * 3, none⟩ = some (.int .i64 (P i)) ∧ w.cell? ⟨b, off + i * 3 + 1, none⟩ = some (.int .u8 (T i)) ∧ w.cell? ⟨b, off + i * 3 + 1 + 1, none⟩ = some (.int .u8 (D i))) :
    Calls Try.prog 9 #[.slice (some ⟨b, off, none⟩) n c] w fun e w' => e = .returned (.slice (some ⟨w.heap.size, 0, none⟩) n n) ∧ Trip w' w.heap.size n P T D ∧ w'.heap.size = w.heap.size + 1 ∧ Below w.heap.size w w' := by
  have hmk := make3 22 67 Try.underlying22 info67 n hn
  have q22 : ∀ (w : World) (a : Option Addr) (n c n' c' : Nat), (binOp .eql 22 (.slice a n c) (.slice none n' c')).run Try.prog w = .ok (.bool a.isNone) w := fun w a n c n' c' => Lib.run_eql_slice_nil w _ _ a n c n' c' Try.underlying22
  obtain ⟨f0, hf0⟩ := row_made3 w 67 n
  have HZ : Hid ((w.alloc (.cells (madeCells #[.int .i64 0, .int .u8 0, .int .u8 0] (n * 3)) 67)).rowIs w.heap.size 67 (n * 3) f0 ∧ (w.alloc (.cells (madeCells #[.int .i64 0, .int .u8 0, .int .u8 0] (n * 3)) 67)).heap.size = w.heap.size + 1 ∧ Below w.heap.size w (w.alloc (.cells (madeCells #[.int .i64 0, .int .u8 0, .int .u8 0] (n * 3)) 67))) :=
    ⟨hf0, by simp, (Below.refl _ _).alloc (Nat.le_refl _) _⟩
  clear hf0
  go_enter Try.func9, Try.ntmps9
  go_wp2
  go_loopw [4] (fun i wr => ∃ (k : Nat) (f : Nat → Value), k ≤ n ∧ i = .int .i64 k ∧ wr.heap.size = w.heap.size + 1 ∧ wr.rowIs w.heap.size 67 (n * 3) f ∧ Upto f k P T D ∧ Below w.heap.size w wr) (fun i _ => n - (intOf i).toNat)
  case atStart => exact ⟨0, f0, Nat.zero_le _, rfl, HZ.out.2.1, HZ.out.1, fun i hi => absurd hi (by omega), HZ.out.2.2⟩
  case round =>
    obtain ⟨k, f, hk, rfl, hsz, hrow, hup, hbel⟩ := hrel
    by_cases hlt : k < n
    · obtain ⟨c0, c1, c2⟩ := hc k hlt
      have d0 := cell_later hbel c0
      have d1 := cell_later hbel c1
      have d2 := cell_later hbel c2
      have e0 := hrow.cell (i := k * 3) (by omega)
      have e1 := hrow.cell (i := k * 3 + 1) (by omega)
      have e2 := hrow.cell (i := k * 3 + 1 + 1) (by omega)
      have f0 := hrow.frozen (k * 3)
      have f1 := hrow.frozen (k * 3 + 1)
      have f2 := hrow.frozen (k * 3 + 1 + 1)
      have HR : Hid ((((wr.setCell ⟨w.heap.size, k * 3, none⟩ (.int .i64 (P k))).setCell ⟨w.heap.size, k * 3 + 1, none⟩ (.int .u8 (T k))).setCell ⟨w.heap.size, k * 3 + 1 + 1, none⟩ (.int .u8 (D k))).rowIs w.heap.size 67 (n * 3) (put3 f k (.int .i64 (P k)) (.int .u8 (T k)) (.int .u8 (D k))) ∧ (((wr.setCell ⟨w.heap.size, k * 3, none⟩ (.int .i64 (P k))).setCell ⟨w.heap.size, k * 3 + 1, none⟩ (.int .u8 (T k))).setCell ⟨w.heap.size, k * 3 + 1 + 1, none⟩ (.int .u8 (D k))).heap.size = w.heap.size + 1 ∧
          Below w.heap.size w (((wr.setCell ⟨w.heap.size, k * 3, none⟩ (.int .i64 (P k))).setCell ⟨w.heap.size, k * 3 + 1, none⟩ (.int .u8 (T k))).setCell ⟨w.heap.size, k * 3 + 1 + 1, none⟩ (.int .u8 (D k))) ∧ Upto (put3 f k (.int .i64 (P k)) (.int .u8 (T k)) (.int .u8 (D k))) (k + 1) P T D) :=
        ⟨row_put3 hrow k _ _ _, by simp [hsz], ((hbel.setCell (Nat.le_refl _) _).setCell (Nat.le_refl _) _).setCell (Nat.le_refl _) _, upto_put hup⟩
      clear c0 c1 c2 hrow hup hbel
      go_wp2
      go_roundw
      case rel => exact ⟨k + 1, _, by omega, by go_num, HR.out.2.1, HR.out.1, HR.out.2.2.2, HR.out.2.2.1⟩
      case measure => simp [intOf]; omega
    · obtain rfl : k = n := by omega
      go_wp2
      go_ret
      exact ⟨rfl, trip_of hrow hup, hsz, hbel⟩
set_option maxHeartbeats 800000 in
theorem chkOutcomes_some (b n c : Nat) (P T D : Nat → Int) (w : World) (hn : n ≤ 4096) (hc : Trip w b n P T D) :
    Calls Try.prog 11 #[.slice (some ⟨b, 0, none⟩) n c] w fun e w' => e = .returned (.slice (some ⟨w.heap.size, 0, none⟩) n n) ∧ Trip w' w.heap.size n P T D ∧ w'.heap.size = w.heap.size + 1 ∧ Below w.heap.size w w' := by
  have hmk := make3 27 69 Try.underlying27 info69 n hn
  have q22 : ∀ (w : World) (a : Option Addr) (n c n' c' : Nat), (binOp .eql 22 (.slice a n c) (.slice none n' c')).run Try.prog w = .ok (.bool a.isNone) w := fun w a n c n' c' => Lib.run_eql_slice_nil w _ _ a n c n' c' Try.underlying22
  obtain ⟨f0, hf0⟩ := row_made3 w 69 n
  have HZ : Hid ((w.alloc (.cells (madeCells #[.int .i64 0, .int .u8 0, .int .u8 0] (n * 3)) 69)).rowIs w.heap.size 69 (n * 3) f0 ∧ (w.alloc (.cells (madeCells #[.int .i64 0, .int .u8 0, .int .u8 0] (n * 3)) 69)).heap.size = w.heap.size + 1 ∧ Below w.heap.size w (w.alloc (.cells (madeCells #[.int .i64 0, .int .u8 0, .int .u8 0] (n * 3)) 69))) :=
    ⟨hf0, by simp, (Below.refl _ _).alloc (Nat.le_refl _) _⟩
  clear hf0
  go_enter Try.func11, Try.ntmps11
  go_wp2
  go_loopw [4] (fun i wr => ∃ (k : Nat) (f : Nat → Value), k ≤ n ∧ i = .int .i64 k ∧ wr.heap.size = w.heap.size + 1 ∧ wr.rowIs w.heap.size 69 (n * 3) f ∧ Upto f k P T D ∧ Below w.heap.size w wr) (fun i _ => n - (intOf i).toNat)
  case atStart => exact ⟨0, f0, Nat.zero_le _, rfl, HZ.out.2.1, HZ.out.1, fun i hi => absurd hi (by omega), HZ.out.2.2⟩
  case round =>
    obtain ⟨k, f, hk, rfl, hsz, hrow, hup, hbel⟩ := hrel
    by_cases hlt : k < n
    · obtain ⟨c0, c1, c2⟩ := hc k hlt
      have d0 := cell_later hbel c0
      have d1 := cell_later hbel c1
      have d2 := cell_later hbel c2
      have e0 := hrow.cell (i := k * 3) (by omega)
      have e1 := hrow.cell (i := k * 3 + 1) (by omega)
      have e2 := hrow.cell (i := k * 3 + 1 + 1) (by omega)
      have f0 := hrow.frozen (k * 3)
      have f1 := hrow.frozen (k * 3 + 1)
      have f2 := hrow.frozen (k * 3 + 1 + 1)
      have HR : Hid ((((wr.setCell ⟨w.heap.size, k * 3, none⟩ (.int .i64 (P k))).setCell ⟨w.heap.size, k * 3 + 1, none⟩ (.int .u8 (T k))).setCell ⟨w.heap.size, k * 3 + 1 + 1, none⟩ (.int .u8 (D k))).rowIs w.heap.size 69 (n * 3) (put3 f k (.int .i64 (P k)) (.int .u8 (T k)) (.int .u8 (D k))) ∧ (((wr.setCell ⟨w.heap.size, k * 3, none⟩ (.int .i64 (P k))).setCell ⟨w.heap.size, k * 3 + 1, none⟩ (.int .u8 (T k))).setCell ⟨w.heap.size, k * 3 + 1 + 1, none⟩ (.int .u8 (D k))).heap.size = w.heap.size + 1 ∧
          Below w.heap.size w (((wr.setCell ⟨w.heap.size, k * 3, none⟩ (.int .i64 (P k))).setCell ⟨w.heap.size, k * 3 + 1, none⟩ (.int .u8 (T k))).setCell ⟨w.heap.size, k * 3 + 1 + 1, none⟩ (.int .u8 (D k))) ∧ Upto (put3 f k (.int .i64 (P k)) (.int .u8 (T k)) (.int .u8 (D k))) (k + 1) P T D) :=
        ⟨row_put3 hrow k _ _ _, by simp [hsz], ((hbel.setCell (Nat.le_refl _) _).setCell (Nat.le_refl _) _).setCell (Nat.le_refl _) _, upto_put hup⟩
      clear c0 c1 c2 hrow hup hbel
      have hik : (k : Int) < (n : Int) := by omega
      go_wp2
      go_region
      go_wp2
      go_roundw
      case rel => exact ⟨k + 1, _, by omega, by go_num, HR.out.2.1, HR.out.1.drew, HR.out.2.2.2, HR.out.2.2.1.drew⟩
      case measure => simp [intOf]; omega
    · obtain rfl : k = n := by omega
      go_wp2
      go_ret
      exact ⟨rfl, trip_of hrow hup, hsz, hbel⟩
/-- Nothing is cloned: nil stays nil, an empty slice stays empty. -/
theorem chkClone_nil (w : World) : Calls Try.prog 9 #[.slice none 0 0] w fun e w' => e = .returned (.slice none 0 0) ∧ w = w' := by
  have q22 : ∀ (w : World) (a : Option Addr) (n c n' c' : Nat), (binOp .eql 22 (.slice a n c) (.slice none n' c')).run Try.prog w = .ok (.bool a.isNone) w := fun w a n c n' c' => Lib.run_eql_slice_nil w _ _ a n c n' c' Try.underlying22
  go_enter Try.func9, Try.ntmps9
  go_wp2
  go_ret
  exact ⟨rfl, rfl⟩

theorem chkClone_empty (x : Addr) (c : Nat) (w : World) : Calls Try.prog 9 #[.slice (some x) 0 c] w fun e w' => e = .returned (.slice (some ⟨w.heap.size, 0, none⟩) 0 0) ∧ Below w.heap.size w w' := by
  have q22 : ∀ (w : World) (a : Option Addr) (n c n' c' : Nat), (binOp .eql 22 (.slice a n c) (.slice none n' c')).run Try.prog w = .ok (.bool a.isNone) w := fun w a n c n' c' => Lib.run_eql_slice_nil w _ _ a n c n' c' Try.underlying22
  have hmk : ∀ w : World, (Instr.makeSlice 22 (.int .i64 0) (.int .i64 0)).run Try.prog w = .ok (.slice (some ⟨w.heap.size, 0, none⟩) 0 0) (w.alloc (.cells (madeCells #[.int .i64 0, .int .u8 0, .int .u8 0] (0 * 3)) 67)) := fun w => make3 22 67 Try.underlying22 info67 0 (by omega) w
  have HB : Hid (∀ o, Below w.heap.size w (w.alloc o)) := fun o => (Below.refl _ _).alloc (Nat.le_refl _) _
  go_enter Try.func9, Try.ntmps9
  go_wp2
  refine wp_loop_rounds 1 ?_
  rw [rounds_succ]
  go_wp2
  go_ret
  exact ⟨rfl, HB.out _⟩

theorem chkOutcomes_nil (w : World) : Calls Try.prog 11 #[.slice none 0 0] w fun e w' => e = .returned (.slice none 0 0) ∧ w = w' := by
  have q22 : ∀ (w : World) (a : Option Addr) (n c n' c' : Nat), (binOp .eql 22 (.slice a n c) (.slice none n' c')).run Try.prog w = .ok (.bool a.isNone) w := fun w a n c n' c' => Lib.run_eql_slice_nil w _ _ a n c n' c' Try.underlying22
  go_enter Try.func11, Try.ntmps11
  go_wp2
  go_ret
  exact ⟨rfl, rfl⟩

theorem chkOutcomes_empty (x : Addr) (c : Nat) (w : World) : Calls Try.prog 11 #[.slice (some x) 0 c] w fun e w' => e = .returned (.slice (some ⟨w.heap.size, 0, none⟩) 0 0) ∧ Below w.heap.size w w' := by
  have q22 : ∀ (w : World) (a : Option Addr) (n c n' c' : Nat), (binOp .eql 22 (.slice a n c) (.slice none n' c')).run Try.prog w = .ok (.bool a.isNone) w := fun w a n c n' c' => Lib.run_eql_slice_nil w _ _ a n c n' c' Try.underlying22
  have hmk : ∀ w : World, (Instr.makeSlice 27 (.int .i64 0) (.int .i64 0)).run Try.prog w = .ok (.slice (some ⟨w.heap.size, 0, none⟩) 0 0) (w.alloc (.cells (madeCells #[.int .i64 0, .int .u8 0, .int .u8 0] (0 * 3)) 69)) := fun w => make3 27 69 Try.underlying27 info69 0 (by omega) w
  have HB : Hid (∀ o, Below w.heap.size w (w.alloc o)) := fun o => (Below.refl _ _).alloc (Nat.le_refl _) _
  go_enter Try.func11, Try.ntmps11
  go_wp2
  refine wp_loop_rounds 1 ?_
  rw [rounds_succ]
  go_wp2
  go_ret
  exact ⟨rfl, HB.out _⟩

theorem check_empty (a : Option Addr) (c : Nat) (w : World) : Calls Try.prog 10 #[.slice a 0 c] w fun e w' => e = .returned (.slice none 0 0) ∧ w = w' := by
  go_enter Try.func10, Try.ntmps10
  go_wp2
  refine wp_loop_rounds 1 ?_
  rw [rounds_succ]
  go_wp2
  go_ret
  exact ⟨rfl, rfl⟩
end Go.Proofs.Qxb6603956a
