/- Contracts of the library's functions, laid by the shelf's own tool for this program: sort_Ints, sort_Ints_none. -/
import Derived.Shelf.Sort.Plain
import Derived.Shelf.Slices.In.SortNone
import Derived.Shelf.Slices.In.SortNone2
import Derived.Test.YtkmfedmiaannfaaProg
namespace Go.Proofs.Ytkmfedmiaannfaa.Sh
open Go.Shelf Go.Proofs
def lays191_ren : Go.Shelf.Ren := ⟨fun | 191 => 103 | 189 => 116 | 125 => 122 | 257 => 121 | 128 => 133 | 129 => 134 | 294 => 124 | 295 => 125 | 296 => 126 | 297 => 127 | 298 => 128 | 299 => 129 | 216 => 130 | 300 => 131 | 301 => 132 | 328 => 135 | 329 => 136 | 330 => 137 | 331 => 138 | 332 => 139 | 215 => 140 | 343 => 141 | n => n, fun | 28 => 163 | 0 => 0 | 3 => 3 | 46 => 198 | 51 => 121 | 53 => 124 | 4 => 4 | 183 => 201 | 182 => 200 | 131 => 206 | 5 => 5 | 9 => 9 | 218 => 210 | 222 => 214 | 228 => 217 | 229 => 218 | n => n, fun | n => n⟩
theorem lays191 : Go.Proofs.Lays.n191 Try.prog lays191_ren := {
  mixed := by kernel_rfl
  f125 := Try.func122.trans (congrArg some (by kernel_rfl))
  f128 := Try.func133.trans (congrArg some (by kernel_rfl))
  f129 := Try.func134.trans (congrArg some (by kernel_rfl))
  f189 := Try.func116.trans (congrArg some (by kernel_rfl))
  f191 := Try.func103.trans (congrArg some (by kernel_rfl))
  f215 := Try.func140.trans (congrArg some (by kernel_rfl))
  f216 := Try.func130.trans (congrArg some (by kernel_rfl))
  f257 := Try.func121.trans (congrArg some (by kernel_rfl))
  f294 := Try.func124.trans (congrArg some (by kernel_rfl))
  f295 := Try.func125.trans (congrArg some (by kernel_rfl))
  f296 := Try.func126.trans (congrArg some (by kernel_rfl))
  f297 := Try.func127.trans (congrArg some (by kernel_rfl))
  f298 := Try.func128.trans (congrArg some (by kernel_rfl))
  f299 := Try.func129.trans (congrArg some (by kernel_rfl))
  f300 := Try.func131.trans (congrArg some (by kernel_rfl))
  f301 := Try.func132.trans (congrArg some (by kernel_rfl))
  f328 := Try.func135.trans (congrArg some (by kernel_rfl))
  f329 := Try.func136.trans (congrArg some (by kernel_rfl))
  f330 := Try.func137.trans (congrArg some (by kernel_rfl))
  f331 := Try.func138.trans (congrArg some (by kernel_rfl))
  f332 := Try.func139.trans (congrArg some (by kernel_rfl))
  f343 := Try.func141.trans (congrArg some (by kernel_rfl))
  t0 := Try.underlying0
  a0 := Try.isAgg0
  z0 := Try.sizeOf0
  v0 := Try.zeroValue0
  t3 := Try.underlying3
  a3 := Try.isAgg3
  z3 := Try.sizeOf3
  v3 := Try.zeroValue3
  t4 := Try.underlying4
  a4 := Try.isAgg4
  z4 := Try.sizeOf4
  v4 := Try.zeroValue4
  t5 := Try.underlying5
  a5 := Try.isAgg5
  z5 := Try.sizeOf5
  v5 := Try.zeroValue5
  t9 := Try.underlying9
  a9 := Try.isAgg9
  z9 := Try.sizeOf9
  v9 := Try.zeroValue9
  t28 := Try.underlying163
  a28 := Try.isAgg163
  z28 := Try.sizeOf163
  v28 := Try.zeroValue163
  t46 := Try.underlying198
  a46 := Try.isAgg198
  z46 := Try.sizeOf198
  v46 := Try.zeroValue198
  t51 := Try.underlying121
  a51 := Try.isAgg121
  z51 := Try.sizeOf121
  v51 := Try.zeroValue121
  t53 := Try.underlying124
  a53 := Try.isAgg124
  z53 := Try.sizeOf124
  v53 := Try.zeroValue124
  t131 := Try.underlying206
  a131 := Try.isAgg206
  z131 := Try.sizeOf206
  v131 := Try.zeroValue206
  t182 := Try.underlying200
  a182 := Try.isAgg200
  z182 := Try.sizeOf200
  v182 := Try.zeroValue200
  t183 := Try.underlying201
  a183 := Try.isAgg201
  z183 := Try.sizeOf201
  v183 := Try.zeroValue201
  t218 := Try.underlying210
  a218 := Try.isAgg210
  z218 := Try.sizeOf210
  v218 := Try.zeroValue210
  t222 := Try.underlying214
  a222 := Try.isAgg214
  z222 := Try.sizeOf214
  v222 := Try.zeroValue214
  t228 := Try.underlying217
  a228 := Try.isAgg217
  z228 := Try.sizeOf217
  v228 := Try.zeroValue217
  t229 := Try.underlying218
  a229 := Try.isAgg218
  z229 := Try.sizeOf218
  v229 := Try.zeroValue218 }
open Go.Sort Go.RowKit in
theorem sort_Ints (blk off cap : Nat) (zs : List Int) (w : World) (hH : Holds (Value.int .i64) w blk off zs.toArray) (hblk : blk < w.heap.size) (hsz : zs.length < 4611686018427387904) :
    Calls Try.prog 103 #[.slice (some ⟨blk, off, none⟩) zs.length cap] w fun e w' =>
      e = .returned (.tuple #[]) ∧ ∃ n os, w' = grow (putRow (Value.int .i64) (Sort.ahead w n) blk off (zs.mergeSort fun x y => decide (x ≤ y)).toArray) os := Any.sort_Ints lays191 blk off cap zs w hH hblk hsz
open Go.RowKit Go.Sort in
theorem sort_Ints_none (p : Option Addr) (cap : Nat) (w : World) :
    Calls Try.prog 103 #[.slice p 0 cap] w fun e w' => e = .returned (.tuple #[]) ∧ w' = w := Any.sort_Ints_none lays191 p cap w
end Go.Proofs.Ytkmfedmiaannfaa.Sh
