/- The contract of slices.Sort at []int, laid at this program (plain text as the kit's tool writes it for this program). -/
import Derived.Shelf.Sort.Plain
import Derived.Test.Qxb6003952aFmtProg
namespace Go.Proofs
open Go.Shelf
def Tryf.lays189_ren : Go.Shelf.Ren := ⟨fun | 189 => 54 | 125 => 60 | 257 => 59 | 128 => 74 | 129 => 75 | 294 => 65 | 295 => 66 | 296 => 67 | 297 => 68 | 298 => 69 | 299 => 70 | 216 => 71 | 300 => 72 | 301 => 73 | 328 => 81 | 329 => 82 | 330 => 83 | 331 => 84 | 332 => 85 | 215 => 86 | 343 => 89 | n => n, fun | 28 => 40 | 3 => 3 | 46 => 43 | 0 => 0 | 51 => 44 | 53 => 120 | 4 => 4 | 183 => 112 | 182 => 111 | 131 => 94 | 5 => 5 | 9 => 9 | 218 => 121 | 222 => 125 | 228 => 130 | 229 => 131 | n => n, fun | n => n⟩
theorem Tryf.lays189 : Go.Proofs.Lays.n189 Tryf.prog Tryf.lays189_ren := {
  mixed := by kernel_rfl
  f125 := Tryf.func60.trans (congrArg some (by kernel_rfl))
  f128 := Tryf.func74.trans (congrArg some (by kernel_rfl))
  f129 := Tryf.func75.trans (congrArg some (by kernel_rfl))
  f189 := Tryf.func54.trans (congrArg some (by kernel_rfl))
  f215 := Tryf.func86.trans (congrArg some (by kernel_rfl))
  f216 := Tryf.func71.trans (congrArg some (by kernel_rfl))
  f257 := Tryf.func59.trans (congrArg some (by kernel_rfl))
  f294 := Tryf.func65.trans (congrArg some (by kernel_rfl))
  f295 := Tryf.func66.trans (congrArg some (by kernel_rfl))
  f296 := Tryf.func67.trans (congrArg some (by kernel_rfl))
  f297 := Tryf.func68.trans (congrArg some (by kernel_rfl))
  f298 := Tryf.func69.trans (congrArg some (by kernel_rfl))
  f299 := Tryf.func70.trans (congrArg some (by kernel_rfl))
  f300 := Tryf.func72.trans (congrArg some (by kernel_rfl))
  f301 := Tryf.func73.trans (congrArg some (by kernel_rfl))
  f328 := Tryf.func81.trans (congrArg some (by kernel_rfl))
  f329 := Tryf.func82.trans (congrArg some (by kernel_rfl))
  f330 := Tryf.func83.trans (congrArg some (by kernel_rfl))
  f331 := Tryf.func84.trans (congrArg some (by kernel_rfl))
  f332 := Tryf.func85.trans (congrArg some (by kernel_rfl))
  f343 := Tryf.func89.trans (congrArg some (by kernel_rfl))
  t0 := Tryf.underlying0
  a0 := Tryf.isAgg0
  z0 := Tryf.sizeOf0
  v0 := Tryf.zeroValue0
  t3 := Tryf.underlying3
  a3 := Tryf.isAgg3
  z3 := Tryf.sizeOf3
  v3 := Tryf.zeroValue3
  t4 := Tryf.underlying4
  a4 := Tryf.isAgg4
  z4 := Tryf.sizeOf4
  v4 := Tryf.zeroValue4
  t5 := Tryf.underlying5
  a5 := Tryf.isAgg5
  z5 := Tryf.sizeOf5
  v5 := Tryf.zeroValue5
  t9 := Tryf.underlying9
  a9 := Tryf.isAgg9
  z9 := Tryf.sizeOf9
  v9 := Tryf.zeroValue9
  t28 := Tryf.underlying40
  a28 := Tryf.isAgg40
  z28 := Tryf.sizeOf40
  v28 := Tryf.zeroValue40
  t46 := Tryf.underlying43
  a46 := Tryf.isAgg43
  z46 := Tryf.sizeOf43
  v46 := Tryf.zeroValue43
  t51 := Tryf.underlying44
  a51 := Tryf.isAgg44
  z51 := Tryf.sizeOf44
  v51 := Tryf.zeroValue44
  t53 := Tryf.underlying120
  a53 := Tryf.isAgg120
  z53 := Tryf.sizeOf120
  v53 := Tryf.zeroValue120
  t131 := Tryf.underlying94
  a131 := Tryf.isAgg94
  z131 := Tryf.sizeOf94
  v131 := Tryf.zeroValue94
  t182 := Tryf.underlying111
  a182 := Tryf.isAgg111
  z182 := Tryf.sizeOf111
  v182 := Tryf.zeroValue111
  t183 := Tryf.underlying112
  a183 := Tryf.isAgg112
  z183 := Tryf.sizeOf112
  v183 := Tryf.zeroValue112
  t218 := Tryf.underlying121
  a218 := Tryf.isAgg121
  z218 := Tryf.sizeOf121
  v218 := Tryf.zeroValue121
  t222 := Tryf.underlying125
  a222 := Tryf.isAgg125
  z222 := Tryf.sizeOf125
  v222 := Tryf.zeroValue125
  t228 := Tryf.underlying130
  a228 := Tryf.isAgg130
  z228 := Tryf.sizeOf130
  v228 := Tryf.zeroValue130
  t229 := Tryf.underlying131
  a229 := Tryf.isAgg131
  z229 := Tryf.sizeOf131
  v229 := Tryf.zeroValue131 }
open Go.Sort Go.RowKit in
theorem Tryf.slices_Sort_int (blk off cap : Nat) (zs : List Int) (w : World) (hH : Holds (Value.int .i64) w blk off zs.toArray) (hblk : blk < w.heap.size) (hsz : zs.length < 4611686018427387904) :
    Calls Tryf.prog 54 #[.slice (some ⟨blk, off, none⟩) zs.length cap] w fun e w' =>
      e = .returned (.tuple #[]) ∧ ∃ n os, w' = grow (putRow (Value.int .i64) (Sort.ahead w n) blk off (zs.mergeSort fun x y => decide (x ≤ y)).toArray) os := Any.slices_Sort_int Tryf.lays189 blk off cap zs w hH hblk hsz
end Go.Proofs
