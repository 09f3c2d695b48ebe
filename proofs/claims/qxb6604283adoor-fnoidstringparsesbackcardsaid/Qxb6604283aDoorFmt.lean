/-
  SEAT b6604283aD: strconv.FormatUint AT BASE 10.
-/
import Derived.Test.Qxb6604283aDoorBuild
import Derived.Lib.ItoaMem
import Derived.Lib.Walk
namespace Go.Proofs.Qxb6604283aDoor
open Go.RowKit
set_option maxRecDepth 100000

theorem fmt_small (u : Nat) (hu : u < 100) (w : World) :
    Calls Tryd.prog 12 #[.int .u64 u, .int .i64 10] w fun e w' => e = .returned (.string ⟨(Lib.decDigits u).toArray⟩) ∧ w = w' := by
  go_enter Tryd.func12, Tryd.ntmps12
  go_wp2_with (go_at_call 14; refine (Tryd.internal_strconv_small u hu _).mono ?_; rintro e w' ⟨rfl, rfl⟩)
  go_ret
  exact ⟨rfl, rfl⟩

/-- A byte's cell. -/
abbrev byteV (b : UInt8) : Value := Value.int .u8 (b.toNat : Int)

theorem holds_zero0 (w : World) (T : TypeId) (nd : Nat) (hs : nd ≤ 24) : Sort.Holds (fun (b : UInt8) => Value.int .u8 (b.toNat : Int)) (w.alloc (.cells Lib.zeros24 T)) w.heap.size 0 (Array.replicate nd (0 : UInt8)) := fun j hj => by
  have hj' : j < nd := by simpa using hj
  refine ⟨?_, World.frozen?_alloc_new _ _ _ _⟩
  rw [World.cell?_alloc_new, Lib.zeros24_at _ (by omega), getElem!_pos _ j hj]
  simp

theorem len42 : Tryd.prog.arrayLen 42 = 24 := by kernel_rfl
theorem slice42 (b n : Nat) (hn : n ≤ 24) (w : World) : (Instr.sliceAt 42 (.pointer (some ⟨b, 0, none⟩)) none (some (.int .i64 n)) none).run Tryd.prog w = .ok (.slice (some ⟨b, 0, none⟩) n 24) w := by
  rw [run_sliceAt_array_h w 42 ⟨b, 0, none⟩ Tryd.underlying42 .i64 n (by omega) (by rw [len42]; omega), len42]
  have e : (sizeOf (Tryd.prog.elem 42)).run Tryd.prog w = .ok 1 w := by kernel_rfl
  rw [e]
  simp [Result.andThen, slicedAt, Addr.add]

theorem below_put {B : Nat} {w : World} (b o : Nat) (hb : B ≤ b) (dk : Array UInt8) (k : Nat) : Below B w ((Sort.putRow (fun (b : UInt8) => Value.int .u8 (b.toNat : Int)) w b o dk).drewN k) := by
  refine ⟨rfl, rfl, rfl, ?_, fun i hi => ?_⟩
  · show w.heap.size ≤ (Sort.putRow _ w b o dk).heap.size
    simp [Sort.putRow, Sort.mapBlock]
  · show (Sort.putRow _ w b o dk).heap[i]? = w.heap[i]?
    simp only [Sort.putRow, Sort.mapBlock, Array.getElem?_modify]
    rw [if_neg (by omega)]


set_option maxHeartbeats 1600000 in
theorem fmt_big (u : Nat) (hu : 100 ≤ u) (hu64 : u < 18446744073709551616) (w : World) (htab : Lib.TabIs Tryd.prog w Tryd.powName .u64 Lib.pow10Tab) :
    Calls Tryd.prog 12 #[.int .u64 u, .int .i64 10] w fun e w' => e = .returned (.string ⟨(Lib.decDigits u).toArray⟩) ∧ Below w.heap.size w w' := by
  have hnd : Lib.nDigits u ≤ 20 := by have := Lib.numDigits_eq u (by omega) hu64; split at this <;> omega
  have hsl := slice42 w.heap.size (Lib.nDigits u) (by omega)
  have hH0 := holds_zero0 w 42 (Lib.nDigits u) (by omega)
  have hfmt := Tryd.internal_strconv_formatBase10 w.heap.size 0 24 u (Array.replicate (Lib.nDigits u) 0) (w.alloc (.cells Lib.zeros24 42)) hH0 (by rw [Array.size_replicate]; exact Lib.lt_pow_nDigits u) hu64 (by rw [Array.size_replicate]; omega)
  rw [Array.size_replicate] at hfmt
  have HF := hide hfmt
  have HH0 := hide hH0
  have HND := hide (Tryd.internal_strconv_numDigits u (by omega) hu64 (w.alloc (.cells Lib.zeros24 42)) (Lib.tabIs_alloc htab _))
  clear hH0 hfmt htab
  have huI : (100 : Int) ≤ (u : Int) := by omega
  go_enter Tryd.func12, Tryd.ntmps12
  go_wp2_with (first
    | (go_at_call 15; refine HND.out.mono ?_; rintro e w' ⟨rfl, rfl⟩))
  go_at_call 16
  refine HF.out.mono ?_
  rintro e w' ⟨rfl, k, v', dk, rfl, hF⟩
  have hcv : (convert 29 9 (.slice (some ⟨w.heap.size, 0, none⟩) (Lib.nDigits u) 24)).run Tryd.prog ((Sort.putRow (fun (b : UInt8) => Value.int .u8 (b.toNat : Int)) (w.alloc (.cells Lib.zeros24 42)) w.heap.size 0 dk).drewN k) = .ok (.string ⟨(Lib.decDigits u).toArray⟩) ((Sort.putRow (fun (b : UInt8) => Value.int .u8 (b.toNat : Int)) (w.alloc (.cells Lib.zeros24 42)) w.heap.size 0 dk).drewN k) := by
    have h := run_convert_bytes_back (P := Tryd.prog) ((Sort.putRow (fun (b : UInt8) => Value.int .u8 (b.toNat : Int)) (w.alloc (.cells Lib.zeros24 42)) w.heap.size 0 dk).drewN k) 29 9 5 ⟨w.heap.size, 0, none⟩ 24 (Lib.decDigits u) Tryd.underlying29 Tryd.underlying5 Tryd.underlying9 (fun j hj => by
      rw [Lib.row_is_numeral hF j hj, Lib.add_plain, World.cell?_drewN]
      exact Sort.cell?_putRow (fun (b : UInt8) => Value.int .u8 (b.toNat : Int)) _ w.heap.size 0 _ dk HH0.out (by rw [hF.size, Array.size_replicate]) j (by rw [hF.size]; rw [Lib.decDigits_length] at hj; exact hj))
    rw [Lib.decDigits_length] at h
    exact h
  have HB := hide (show Below w.heap.size w ((Sort.putRow (fun (b : UInt8) => Value.int .u8 (b.toNat : Int)) (w.alloc (.cells Lib.zeros24 42)) w.heap.size 0 dk).drewN k) from ((Below.refl _ _).alloc (Nat.le_refl _) _).trans (below_put _ _ (Nat.le_refl _) dk k))
  go_wp2
  go_ret
  exact ⟨rfl, HB.out⟩

/-- strconv.FormatUint(u, 10): u's numeral; what was there stands. -/
theorem fmt_any (u : Nat) (hu64 : u < 18446744073709551616) (w : World) (htab : Lib.TabIs Tryd.prog w Tryd.powName .u64 Lib.pow10Tab) :
    Calls Tryd.prog 9 #[.int .u64 u, .int .i64 10] w fun e w' => e = .returned (.string ⟨(Lib.decDigits u).toArray⟩) ∧ Below w.heap.size w w' := by
  have HK := hide (show Calls Tryd.prog 12 #[.int .u64 u, .int .i64 10] w fun e w' => e = .returned (.string ⟨(Lib.decDigits u).toArray⟩) ∧ Below w.heap.size w w' from by
    by_cases h : u < 100
    · refine (fmt_small u h w).mono ?_
      rintro e w' ⟨rfl, rfl⟩
      exact ⟨rfl, Below.refl _ _⟩
    · exact fmt_big u (by omega) hu64 w htab)
  clear htab
  go_enter Tryd.func9, Tryd.ntmps9
  go_wp2_with (go_at_call 12; refine HK.out.mono ?_; rintro e w1 ⟨rfl, h1⟩; replace h1 := hide h1)
  go_ret
  exact ⟨rfl, h1.out⟩

end Go.Proofs.Qxb6604283aDoor
