/-
  SEAT b6603956a: THREE SLICES THAT THE CALL GROWS SIDE BY SIDE; the library's sort and clone on a slice of the call's own.
-/
import Derived.Test.Qxb6603956aClone3
import Derived.Test.Qxb6603956aGather
import Derived.Test.Qxb6603956aShelf
import Derived.Sort.OwnSortedInts
import Derived.Deep.AppendLies
namespace Go.Proofs.Qxb6603956a
open Go.RowKit
set_option maxRecDepth 100000

/-- Two slices do not lie in one block. -/
def Apart (v u : Value) : Prop := ∀ g, v.ownBlock = some g → u.ownBlock ≠ some g

theorem Apart.symm {v u : Value} (h : Apart v u) : Apart u v := fun g hu hv => h g hv hu

theorem kept_apart {w w' : World} {base e s n : Nat} {u v : Value} {xs : List Value} (h : w.ownsRow base e s u n xs) (hg : w.grownBy w' v.ownBlock) (ha : Apart v u) : w'.ownsRow base e s u n xs := by
  refine h.kept hg ?_
  cases hu : u.ownBlock with
  | none => exact .inl rfl
  | some g => exact .inr (fun e => ha g e.symm hu)

theorem apart_new {w : World} {base e s n : Nat} {u v v' : Value} {xs : List Value} (ha : Apart v u) (hu : w.ownsRow base e s u n xs) (hat : v'.ownBlock = v.ownBlock ∨ v'.ownBlock = some w.heap.size) : Apart v' u := by
  intro g hv hug
  rcases hat with h | h
  · exact ha g (by rw [← h]; exact hv) hug
  · rw [h] at hv
    cases hv
    have := (hu.lt _ hug).2
    omega

/-- What has been gathered. -/
structure Gath (w wr : World) (v1 v2 v3 : Value) (l1 l2 l3 : List Int) : Prop where
  below : Below w.heap.size w wr
  o1 : wr.ownsRow w.heap.size 3 1 v1 l1.length (l1.map (Value.int .i64))
  o2 : wr.ownsRow w.heap.size 3 1 v2 l2.length (l2.map (Value.int .i64))
  o3 : wr.ownsRow w.heap.size 3 1 v3 l3.length (l3.map (Value.int .i64))
  a12 : Apart v1 v2
  a13 : Apart v1 v3
  a23 : Apart v2 v3

namespace Gath
variable {w wr w1 : World} {v1 v2 v3 v' : Value} {l1 l2 l3 : List Int} {x : Int}

theorem start (w : World) : Gath w w (.slice none 0 0) (.slice none 0 0) (.slice none 0 0) [] [] [] :=
  ⟨Below.refl _ _, World.ownsRow_nil _ _ _ _, World.ownsRow_nil _ _ _ _, World.ownsRow_nil _ _ _ _, (fun g h => by cases h), (fun g h => by cases h), (fun g h => by cases h)⟩

theorem alloc (h : Gath w wr v1 v2 v3 l1 l2 l3) (o : Obj) : Gath w (wr.alloc o) v1 v2 v3 l1 l2 l3 :=
  ⟨h.below.alloc h.below.size o, h.o1.alloc o, h.o2.alloc o, h.o3.alloc o, h.a12, h.a13, h.a23⟩

theorem grown_below (h : Below w.heap.size w wr) {v : Value} {e s n : Nat} {xs : List Value} (ho : wr.ownsRow w.heap.size e s v n xs) (hg : wr.grownBy w1 v.ownBlock) : Below w.heap.size w w1 :=
  h.grown hg h.size (fun k hk => (ho.lt k hk).1)

theorem push1 (h : Gath w wr v1 v2 v3 l1 l2 l3) (hg : wr.grownBy w1 v1.ownBlock) (ho : w1.ownsRow w.heap.size 3 1 v' (l1.length + 1) (l1.map (Value.int .i64) ++ [.int .i64 x])) (hat : v'.ownBlock = v1.ownBlock ∨ v'.ownBlock = some wr.heap.size) :
    Gath w w1 v' v2 v3 (l1 ++ [x]) l2 l3 :=
  ⟨grown_below h.below h.o1 hg, by simpa using ho, kept_apart h.o2 hg h.a12, kept_apart h.o3 hg h.a13, apart_new h.a12 h.o2 hat, apart_new h.a13 h.o3 hat, h.a23⟩

theorem push2 (h : Gath w wr v1 v2 v3 l1 l2 l3) (hg : wr.grownBy w1 v2.ownBlock) (ho : w1.ownsRow w.heap.size 3 1 v' (l2.length + 1) (l2.map (Value.int .i64) ++ [.int .i64 x])) (hat : v'.ownBlock = v2.ownBlock ∨ v'.ownBlock = some wr.heap.size) :
    Gath w w1 v1 v' v3 l1 (l2 ++ [x]) l3 :=
  ⟨grown_below h.below h.o2 hg, kept_apart h.o1 hg h.a12.symm, by simpa using ho, kept_apart h.o3 hg h.a23, (apart_new h.a12.symm h.o1 hat).symm, h.a13, apart_new h.a23 h.o3 hat⟩

theorem push3 (h : Gath w wr v1 v2 v3 l1 l2 l3) (hg : wr.grownBy w1 v3.ownBlock) (ho : w1.ownsRow w.heap.size 3 1 v' (l3.length + 1) (l3.map (Value.int .i64) ++ [.int .i64 x])) (hat : v'.ownBlock = v3.ownBlock ∨ v'.ownBlock = some wr.heap.size) :
    Gath w w1 v1 v2 v' l1 l2 (l3 ++ [x]) :=
  ⟨grown_below h.below h.o3 hg, kept_apart h.o1 hg h.a13.symm, kept_apart h.o2 hg h.a23.symm, by simpa using ho, h.a12, (apart_new h.a13.symm h.o1 hat).symm, (apart_new h.a23.symm h.o2 hat).symm⟩

theorem keep (h : Gath w wr v1 v2 v3 l1 l2 l3) (hg : wr.grownBy w1 none) : Gath w w1 v1 v2 v3 l1 l2 l3 := by
  have k : ∀ {v : Value} {n : Nat} {xs : List Value}, wr.ownsRow w.heap.size 3 1 v n xs → w1.ownsRow w.heap.size 3 1 v n xs := fun {v _ _} ho => ho.kept hg (by cases v.ownBlock <;> simp)
  exact ⟨h.below.grown hg h.below.size (fun k hk => by cases hk), k h.o1, k h.o2, k h.o3, h.a12, h.a13, h.a23⟩

theorem sort1 (h : Gath w wr v1 v2 v3 l1 l2 l3) (hg : wr.grownBy w1 v1.ownBlock) (ho : w1.ownsRow w.heap.size 3 1 v1 l1.length ((l1.mergeSort fun x y => decide (x ≤ y)).map (Value.int .i64))) : Gath w w1 v1 v2 v3 (l1.mergeSort fun x y => decide (x ≤ y)) l2 l3 :=
  ⟨grown_below h.below h.o1 hg, by rw [List.length_mergeSort]; exact ho, kept_apart h.o2 hg h.a12, kept_apart h.o3 hg h.a13, h.a12, h.a13, h.a23⟩

theorem sort2 (h : Gath w wr v1 v2 v3 l1 l2 l3) (hg : wr.grownBy w1 v2.ownBlock) (ho : w1.ownsRow w.heap.size 3 1 v2 l2.length ((l2.mergeSort fun x y => decide (x ≤ y)).map (Value.int .i64))) : Gath w w1 v1 v2 v3 l1 (l2.mergeSort fun x y => decide (x ≤ y)) l3 :=
  ⟨grown_below h.below h.o2 hg, kept_apart h.o1 hg h.a12.symm, by rw [List.length_mergeSort]; exact ho, kept_apart h.o3 hg h.a23, h.a12, h.a13, h.a23⟩

theorem sort3 (h : Gath w wr v1 v2 v3 l1 l2 l3) (hg : wr.grownBy w1 v3.ownBlock) (ho : w1.ownsRow w.heap.size 3 1 v3 l3.length ((l3.mergeSort fun x y => decide (x ≤ y)).map (Value.int .i64))) : Gath w w1 v1 v2 v3 l1 l2 (l3.mergeSort fun x y => decide (x ≤ y)) :=
  ⟨grown_below h.below h.o3 hg, kept_apart h.o1 hg h.a13.symm, kept_apart h.o2 hg h.a23.symm, by rw [List.length_mergeSort]; exact ho, h.a12, h.a13, h.a23⟩

/-- A step that turns the row of another slice, apart from the three, alone. -/
theorem other {v8 : Value} {e s n : Nat} {xs : List Value} (h : Gath w wr v1 v2 v3 l1 l2 l3) (ho : wr.ownsRow w.heap.size e s v8 n xs) (hg : wr.grownBy w1 v8.ownBlock) (a1 : Apart v8 v1) (a2 : Apart v8 v2) (a3 : Apart v8 v3) : Gath w w1 v1 v2 v3 l1 l2 l3 :=
  ⟨grown_below h.below ho hg, kept_apart h.o1 hg a1, kept_apart h.o2 hg a2, kept_apart h.o3 hg a3, h.a12, h.a13, h.a23⟩
end Gath

theorem own_shape {w : World} {base e s n : Nat} {v : Value} {xs : List Value} (h : w.ownsRow base e s v n xs) : ∃ a c, v = .slice a n c := by
  rcases h.2 with ⟨h1, rfl⟩ | ⟨g, cap, _, h1, _⟩
  · exact ⟨none, 0, h1⟩
  · exact ⟨_, _, h1⟩

theorem below_grown {w w' : World} (h : Below w.heap.size w w') (row : Option Nat) : w.grownBy w' row := ⟨h.os, h.tape, h.output, h.size, fun k hk _ => h.block k hk⟩

/-- A slice that reads as a list of ints. -/
def ListAt (w : World) (v : Value) (l : List Int) : Prop :=
  ∃ g cap, v = .slice (some ⟨g, 0, none⟩) l.length cap ∧ g < w.heap.size ∧ ∀ i, i < l.length → w.cell? ⟨g, i, none⟩ = some (.int .i64 (l.getD i 0))

theorem listAt_own {w : World} {base : Nat} {v : Value} {l : List Int} (h : w.ownsRow base 3 1 v l.length (l.map (Value.int .i64))) (h0 : 0 < l.length) : ListAt w v l := by
  obtain ⟨g, cap, rfl, _, hlt⟩ := h.form h0
  refine ⟨g, cap, rfl, hlt, fun i hi => ?_⟩
  rw [h.cellAt i (by omega)]
  simp [List.getD, List.getElem?_eq_getElem hi]

theorem ListAt.below {w w' : World} {v : Value} {l : List Int} (h : ListAt w v l) (hb : Below w.heap.size w w') : ListAt w' v l := by
  obtain ⟨g, cap, rfl, hlt, hc⟩ := h
  exact ⟨g, cap, rfl, Nat.lt_of_lt_of_le hlt hb.size, fun i hi => (hb.cell (p := ⟨g, i, none⟩) hlt).trans (hc i hi)⟩

/-- A block that a growing slice does not own reads as it did. -/
theorem grown_cell {w w' : World} {v : Value} (hg : w.grownBy w' v.ownBlock) {b j : Nat} (hb : b < w.heap.size) (hne : ∀ g, v.ownBlock = some g → g ≠ b) :
    w'.cell? ⟨b, j, none⟩ = w.cell? ⟨b, j, none⟩ :=
  World.cell?_of_block (hg.block b hb (fun e => hne b e.symm rfl))

/-- THE SORT on a slice of the call's own. -/
theorem sort_own (base g cap : Nat) (zs : List Int) (w : World) (h : w.ownsRow base 3 1 (.slice (some ⟨g, 0, none⟩) zs.length cap) zs.length (zs.map (Value.int .i64))) (hl : zs.length ≤ 4096) :
    Calls Try.prog 28 #[.slice (some ⟨g, 0, none⟩) zs.length cap] w fun e w' => e = .returned (.tuple #[]) ∧
      w'.ownsRow base 3 1 (.slice (some ⟨g, 0, none⟩) zs.length cap) zs.length ((zs.mergeSort fun x y => decide (x ≤ y)).map (Value.int .i64)) ∧ w.grownBy w' (some g) := by
  rcases h.2 with ⟨h0, _⟩ | ⟨g', cap', cur, hv, hbase, hb, h1, h2, h3, h4⟩
  · cases h0
  cases hv
  refine (Try.slices_Sort_int g 0 cap zs w (holds_of_blockI hb (by simpa using h4)) (Array.getElem?_eq_some_iff.1 hb).1 (by omega)).mono ?_
  rintro e w' ⟨rfl, nn, os, rfl⟩
  exact ⟨rfl, ownsRow_sortedI (by simp) hbase hb h1 h2 h3, grownBy_sortedI _⟩

end Go.Proofs.Qxb6603956a
