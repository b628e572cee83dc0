/-
  slices.Sort at []int at this program: the shelf's contract, laid by the kit's own tools (in plain words).
-/
import Derived.Shelf.Sort.Plain
import Derived.Test.Qxb6002372aProg
namespace Go.Proofs
open Go.Shelf
def Try.lays189_ren : Go.Shelf.Ren := ⟨fun | 189 => 57 | 125 => 61 | 257 => 60 | 128 => 72 | 129 => 73 | 294 => 63 | 295 => 64 | 296 => 65 | 297 => 66 | 298 => 67 | 299 => 68 | 216 => 69 | 300 => 70 | 301 => 71 | 328 => 74 | 329 => 75 | 330 => 76 | 331 => 77 | 332 => 78 | 215 => 79 | 343 => 80 | n => n, fun | 28 => 82 | 3 => 3 | 46 => 86 | 0 => 0 | 51 => 55 | 53 => 97 | 4 => 4 | 183 => 89 | 182 => 88 | 131 => 81 | 5 => 5 | 9 => 9 | 218 => 98 | 222 => 102 | 228 => 105 | 229 => 25 | n => n, fun | n => n⟩
theorem Try.lays189 : Go.Proofs.Lays.n189 Try.prog Try.lays189_ren := {
  mixed := by kernel_rfl
  f125 := Try.func61.trans (congrArg some (by kernel_rfl))
  f128 := Try.func72.trans (congrArg some (by kernel_rfl))
  f129 := Try.func73.trans (congrArg some (by kernel_rfl))
  f189 := Try.func57.trans (congrArg some (by kernel_rfl))
  f215 := Try.func79.trans (congrArg some (by kernel_rfl))
  f216 := Try.func69.trans (congrArg some (by kernel_rfl))
  f257 := Try.func60.trans (congrArg some (by kernel_rfl))
  f294 := Try.func63.trans (congrArg some (by kernel_rfl))
  f295 := Try.func64.trans (congrArg some (by kernel_rfl))
  f296 := Try.func65.trans (congrArg some (by kernel_rfl))
  f297 := Try.func66.trans (congrArg some (by kernel_rfl))
  f298 := Try.func67.trans (congrArg some (by kernel_rfl))
  f299 := Try.func68.trans (congrArg some (by kernel_rfl))
  f300 := Try.func70.trans (congrArg some (by kernel_rfl))
  f301 := Try.func71.trans (congrArg some (by kernel_rfl))
  f328 := Try.func74.trans (congrArg some (by kernel_rfl))
  f329 := Try.func75.trans (congrArg some (by kernel_rfl))
  f330 := Try.func76.trans (congrArg some (by kernel_rfl))
  f331 := Try.func77.trans (congrArg some (by kernel_rfl))
  f332 := Try.func78.trans (congrArg some (by kernel_rfl))
  f343 := Try.func80.trans (congrArg some (by kernel_rfl))
  t0 := Try.underlying0
  a0 := Try.isAgg0
  z0 := Try.sizeOf0
  v0 := Try.zeroValue0
  t3 := Try.underlying3
  a3 := Try.isAgg3
  z3 := Try.sizeOf3
  v3 := Try.zeroValue3
  t4 := Try.underlying4
  a4 := Try.isAgg4
  z4 := Try.sizeOf4
  v4 := Try.zeroValue4
  t5 := Try.underlying5
  a5 := Try.isAgg5
  z5 := Try.sizeOf5
  v5 := Try.zeroValue5
  t9 := Try.underlying9
  a9 := Try.isAgg9
  z9 := Try.sizeOf9
  v9 := Try.zeroValue9
  t28 := Try.underlying82
  a28 := Try.isAgg82
  z28 := Try.sizeOf82
  v28 := Try.zeroValue82
  t46 := Try.underlying86
  a46 := Try.isAgg86
  z46 := Try.sizeOf86
  v46 := Try.zeroValue86
  t51 := Try.underlying55
  a51 := Try.isAgg55
  z51 := Try.sizeOf55
  v51 := Try.zeroValue55
  t53 := Try.underlying97
  a53 := Try.isAgg97
  z53 := Try.sizeOf97
  v53 := Try.zeroValue97
  t131 := Try.underlying81
  a131 := Try.isAgg81
  z131 := Try.sizeOf81
  v131 := Try.zeroValue81
  t182 := Try.underlying88
  a182 := Try.isAgg88
  z182 := Try.sizeOf88
  v182 := Try.zeroValue88
  t183 := Try.underlying89
  a183 := Try.isAgg89
  z183 := Try.sizeOf89
  v183 := Try.zeroValue89
  t218 := Try.underlying98
  a218 := Try.isAgg98
  z218 := Try.sizeOf98
  v218 := Try.zeroValue98
  t222 := Try.underlying102
  a222 := Try.isAgg102
  z222 := Try.sizeOf102
  v222 := Try.zeroValue102
  t228 := Try.underlying105
  a228 := Try.isAgg105
  z228 := Try.sizeOf105
  v228 := Try.zeroValue105
  t229 := Try.underlying25
  a229 := Try.isAgg25
  z229 := Try.sizeOf25
  v229 := Try.zeroValue25 }
open Go.Sort in
theorem Try.sort_int (blk cap : Nat) (zs : List Int) (w : World) (hH : Holds (Value.int .i64) w blk 0 zs.toArray) (hblk : blk < w.heap.size) (hsz : zs.length < 4611686018427387904) :
    Calls Try.prog 57 #[.slice (some ⟨blk, 0, none⟩) zs.length cap] w fun e w' =>
      e = .returned (.tuple #[]) ∧ ∃ n os, w' = grow (putRow (Value.int .i64) (Sort.ahead w n) blk 0 (zs.mergeSort fun x y => decide (x ≤ y)).toArray) os :=
  Any.slices_Sort_int Try.lays189 blk 0 cap zs w hH hblk hsz
end Go.Proofs
