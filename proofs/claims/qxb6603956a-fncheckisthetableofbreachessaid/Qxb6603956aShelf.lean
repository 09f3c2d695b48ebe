/-
  SEAT b6603956a: slices.Sort and slices.Clone at []int, laid at this program out of the kit's shelf (lay-shelf, lay-plain).
-/
import Derived.Shelf.Sort.Plain
import Derived.Shelf.Slices.Clone
import Derived.Test.Qxb6603956aProg
namespace Go.Proofs
open Go.Shelf
def Try.lays189_ren : Go.Shelf.Ren := ⟨fun | 189 => 28 | 125 => 35 | 257 => 34 | 128 => 47 | 129 => 48 | 294 => 38 | 295 => 39 | 296 => 40 | 297 => 41 | 298 => 42 | 299 => 43 | 216 => 44 | 300 => 45 | 301 => 46 | 328 => 49 | 329 => 50 | 330 => 51 | 331 => 52 | 332 => 53 | 215 => 54 | 343 => 55 | n => n, fun | 28 => 31 | 3 => 3 | 46 => 78 | 0 => 0 | 51 => 99 | 53 => 77 | 4 => 4 | 183 => 91 | 182 => 90 | 131 => 96 | 5 => 5 | 9 => 9 | 218 => 101 | 222 => 105 | 228 => 107 | 229 => 108 | n => n, fun | n => n⟩
theorem Try.lays189 : Go.Proofs.Lays.n189 Try.prog Try.lays189_ren := {
  mixed := by kernel_rfl
  f125 := Try.func35.trans (congrArg some (by kernel_rfl))
  f128 := Try.func47.trans (congrArg some (by kernel_rfl))
  f129 := Try.func48.trans (congrArg some (by kernel_rfl))
  f189 := Try.func28.trans (congrArg some (by kernel_rfl))
  f215 := Try.func54.trans (congrArg some (by kernel_rfl))
  f216 := Try.func44.trans (congrArg some (by kernel_rfl))
  f257 := Try.func34.trans (congrArg some (by kernel_rfl))
  f294 := Try.func38.trans (congrArg some (by kernel_rfl))
  f295 := Try.func39.trans (congrArg some (by kernel_rfl))
  f296 := Try.func40.trans (congrArg some (by kernel_rfl))
  f297 := Try.func41.trans (congrArg some (by kernel_rfl))
  f298 := Try.func42.trans (congrArg some (by kernel_rfl))
  f299 := Try.func43.trans (congrArg some (by kernel_rfl))
  f300 := Try.func45.trans (congrArg some (by kernel_rfl))
  f301 := Try.func46.trans (congrArg some (by kernel_rfl))
  f328 := Try.func49.trans (congrArg some (by kernel_rfl))
  f329 := Try.func50.trans (congrArg some (by kernel_rfl))
  f330 := Try.func51.trans (congrArg some (by kernel_rfl))
  f331 := Try.func52.trans (congrArg some (by kernel_rfl))
  f332 := Try.func53.trans (congrArg some (by kernel_rfl))
  f343 := Try.func55.trans (congrArg some (by kernel_rfl))
  t0 := Try.underlying0
  a0 := Try.isAgg0
  z0 := Try.sizeOf0
  v0 := Try.zeroValue0
  t3 := Try.underlying3
  a3 := Try.isAgg3
  z3 := Try.sizeOf3
  v3 := Try.zeroValue3
  t4 := Try.underlying4
  a4 := Try.isAgg4
  z4 := Try.sizeOf4
  v4 := Try.zeroValue4
  t5 := Try.underlying5
  a5 := Try.isAgg5
  z5 := Try.sizeOf5
  v5 := Try.zeroValue5
  t9 := Try.underlying9
  a9 := Try.isAgg9
  z9 := Try.sizeOf9
  v9 := Try.zeroValue9
  t28 := Try.underlying31
  a28 := Try.isAgg31
  z28 := Try.sizeOf31
  v28 := Try.zeroValue31
  t46 := Try.underlying78
  a46 := Try.isAgg78
  z46 := Try.sizeOf78
  v46 := Try.zeroValue78
  t51 := Try.underlying99
  a51 := Try.isAgg99
  z51 := Try.sizeOf99
  v51 := Try.zeroValue99
  t53 := Try.underlying77
  a53 := Try.isAgg77
  z53 := Try.sizeOf77
  v53 := Try.zeroValue77
  t131 := Try.underlying96
  a131 := Try.isAgg96
  z131 := Try.sizeOf96
  v131 := Try.zeroValue96
  t182 := Try.underlying90
  a182 := Try.isAgg90
  z182 := Try.sizeOf90
  v182 := Try.zeroValue90
  t183 := Try.underlying91
  a183 := Try.isAgg91
  z183 := Try.sizeOf91
  v183 := Try.zeroValue91
  t218 := Try.underlying101
  a218 := Try.isAgg101
  z218 := Try.sizeOf101
  v218 := Try.zeroValue101
  t222 := Try.underlying105
  a222 := Try.isAgg105
  z222 := Try.sizeOf105
  v222 := Try.zeroValue105
  t228 := Try.underlying107
  a228 := Try.isAgg107
  z228 := Try.sizeOf107
  v228 := Try.zeroValue107
  t229 := Try.underlying108
  a229 := Try.isAgg108
  z229 := Try.sizeOf108
  v229 := Try.zeroValue108 }
open Go.Sort Go.RowKit in
theorem Try.slices_Sort_int (blk off cap : Nat) (zs : List Int) (w : World) (hH : Holds (Value.int .i64) w blk off zs.toArray) (hblk : blk < w.heap.size) (hsz : zs.length < 4611686018427387904) :
    Calls Try.prog 28 #[.slice (some ⟨blk, off, none⟩) zs.length cap] w fun e w' =>
      e = .returned (.tuple #[]) ∧ ∃ n os, w' = grow (putRow (Value.int .i64) (Sort.ahead w n) blk off (zs.mergeSort fun x y => decide (x ≤ y)).toArray) os := Any.slices_Sort_int Try.lays189 blk off cap zs w hH hblk hsz
def Try.laysNm215_ren : Go.Shelf.Ren := ⟨fun | 15 => 29 | n => n, fun | 22 => 31 | 3 => 3 | 4 => 4 | n => n, fun | n => n⟩
theorem Try.laysNm215 : Go.Proofs.Lays2.n15 Try.prog Try.laysNm215_ren := {
  mixed := by kernel_rfl
  f15 := Try.func29.trans (congrArg some (by kernel_rfl))
  t3 := Try.underlying3
  a3 := Try.isAgg3
  z3 := Try.sizeOf3
  v3 := Try.zeroValue3
  t4 := Try.underlying4
  a4 := Try.isAgg4
  z4 := Try.sizeOf4
  v4 := Try.zeroValue4
  t22 := Try.underlying31
  a22 := Try.isAgg31
  z22 := Try.sizeOf31
  v22 := Try.zeroValue31
  i3 := by kernel_rfl }
open Go.RowKit Go.Lib in
theorem Try.slices_Clone_int (b off n c : Nat) (zs : List Int) (w : World) (hz : n ≤ zs.length) (hbig : n * 8 ≤ 140737488355328) (hc : ∀ j, j < zs.length → w.cell? ⟨b, off + j, none⟩ = some (.int .i64 (zs.getD j 0))) :
    Calls Try.prog 29 #[.slice (some ⟨b, off, none⟩) n c] w fun e w' => ∃ v', e = .returned v' ∧ w'.ownsRow w.heap.size 3 1 v' n ((zs.take n).map (Value.int .i64)) ∧ v' ≠ .slice none 0 0 ∧ Below w.heap.size w w' := Any.slices_Clone_int Try.laysNm215 b off n c zs w hz hbig hc
open Go.RowKit Go.Lib in
theorem Try.slices_Clone_int_nil (n c : Nat) (w : World) :
    Calls Try.prog 29 #[.slice none n c] w fun e w' => e = .returned (.slice none 0 0) ∧ w' = w := Any.slices_Clone_int_nil Try.laysNm215 n c w
open Go.RowKit Go.Lib in
theorem Try.slices_Clone_int_zero (a : Addr) (c : Nat) (w : World) :
    Calls Try.prog 29 #[.slice (some a) 0 c] w fun e w' => ∃ v', e = .returned v' ∧ w'.ownsRow w.heap.size 3 1 v' 0 [] ∧ v' ≠ .slice none 0 0 ∧ Below w.heap.size w w' := Any.slices_Clone_int_zero Try.laysNm215 a c w
end Go.Proofs
