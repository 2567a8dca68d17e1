/- Contracts of the library's functions, laid by the shelf's own tool for this program: utf8_ValidString, sort_Strings, sort_Strings_none, strings_HasPrefix, sort_Sort_sorted, sort_Sort_tiny. -/
import Derived.Shelf.Strings.Builder1
import Derived.Shelf.Strings.Builder2
import Derived.Shelf.Strings.OnBuilder
import Derived.Shelf.Small.Utf8
import Derived.Shelf.Small.Bits
import Derived.Shelf.Strings.BuilderF
import Derived.Shelf.Strings.BuilderK
import Derived.Shelf.Strconv.Itoa0
import Derived.Shelf.Sort.Plain
import Derived.Shelf.GgSortFunc.Insertion
import Derived.Shelf.GgSortFunc.Tiny
import Derived.Shelf.GgSortFunc.Compose
import Derived.Shelf.GgSortMore.Stable
import Derived.Shelf.GgSortMore.Iface
import Derived.Shelf.GgSortMore.IfaceD
import Derived.Shelf.GgSortMore.IfacePart
import Derived.Shelf.GgSortMore.IfacePdq
import Derived.Shelf.GgSortMore.SortSort
import Derived.Shelf.Strings.Prefix
import Derived.Shelf.Unicode.DecodeSlow
import Derived.Shelf.Unicode.DecodeAny
import Derived.Shelf.Slices.In.SortNone
import Derived.Shelf.Slices.In.SortNone2
import Derived.Shelf.SlSortFunc.Xorshift
import Derived.Shelf.SlSortIface.SiftDown
import Derived.Shelf.SlSortIface.HeapSort
import Derived.Shelf.SlSortIface.PartialInsertion
import Derived.Shelf.Unicode.ValidAny
import Derived.Test.YtfcpapbokefdmaaGreatDoorProg
namespace Go.Proofs.YtfcpapbokefdmaaGreatDoor.Sh
open Go.Shelf Go.Proofs
def lays192_ren : Go.Shelf.Ren := ⟨fun | 192 => 119 | 190 => 138 | 125 => 122 | 258 => 154 | 128 => 139 | 129 => 140 | 302 => 169 | 303 => 170 | 304 => 171 | 305 => 172 | 306 => 173 | 307 => 174 | 308 => 175 | 309 => 176 | 310 => 177 | 333 => 193 | 329 => 194 | 330 => 195 | 334 => 196 | 335 => 197 | 336 => 198 | 344 => 200 | n => n, fun | 31 => 22 | 0 => 0 | 9 => 9 | 3 => 3 | 46 => 265 | 51 => 229 | 53 => 53 | 4 => 4 | 183 => 319 | 182 => 318 | 131 => 294 | 5 => 5 | 218 => 337 | 222 => 305 | 228 => 340 | 229 => 325 | n => n, fun | n => n⟩
theorem lays192 : Go.Proofs.Lays.n192 Tryz.prog lays192_ren := {
  mixed := by kernel_rfl
  f125 := Tryz.func122.trans (congrArg some (by kernel_rfl))
  f128 := Tryz.func139.trans (congrArg some (by kernel_rfl))
  f129 := Tryz.func140.trans (congrArg some (by kernel_rfl))
  f190 := Tryz.func138.trans (congrArg some (by kernel_rfl))
  f192 := Tryz.func119.trans (congrArg some (by kernel_rfl))
  f258 := Tryz.func154.trans (congrArg some (by kernel_rfl))
  f302 := Tryz.func169.trans (congrArg some (by kernel_rfl))
  f303 := Tryz.func170.trans (congrArg some (by kernel_rfl))
  f304 := Tryz.func171.trans (congrArg some (by kernel_rfl))
  f305 := Tryz.func172.trans (congrArg some (by kernel_rfl))
  f306 := Tryz.func173.trans (congrArg some (by kernel_rfl))
  f307 := Tryz.func174.trans (congrArg some (by kernel_rfl))
  f308 := Tryz.func175.trans (congrArg some (by kernel_rfl))
  f309 := Tryz.func176.trans (congrArg some (by kernel_rfl))
  f310 := Tryz.func177.trans (congrArg some (by kernel_rfl))
  f329 := Tryz.func194.trans (congrArg some (by kernel_rfl))
  f330 := Tryz.func195.trans (congrArg some (by kernel_rfl))
  f333 := Tryz.func193.trans (congrArg some (by kernel_rfl))
  f334 := Tryz.func196.trans (congrArg some (by kernel_rfl))
  f335 := Tryz.func197.trans (congrArg some (by kernel_rfl))
  f336 := Tryz.func198.trans (congrArg some (by kernel_rfl))
  f344 := Tryz.func200.trans (congrArg some (by kernel_rfl))
  t0 := Tryz.underlying0
  a0 := Tryz.isAgg0
  z0 := Tryz.sizeOf0
  v0 := Tryz.zeroValue0
  t3 := Tryz.underlying3
  a3 := Tryz.isAgg3
  z3 := Tryz.sizeOf3
  v3 := Tryz.zeroValue3
  t4 := Tryz.underlying4
  a4 := Tryz.isAgg4
  z4 := Tryz.sizeOf4
  v4 := Tryz.zeroValue4
  t5 := Tryz.underlying5
  a5 := Tryz.isAgg5
  z5 := Tryz.sizeOf5
  v5 := Tryz.zeroValue5
  t9 := Tryz.underlying9
  a9 := Tryz.isAgg9
  z9 := Tryz.sizeOf9
  v9 := Tryz.zeroValue9
  t31 := Tryz.underlying22
  a31 := Tryz.isAgg22
  z31 := Tryz.sizeOf22
  v31 := Tryz.zeroValue22
  t46 := Tryz.underlying265
  a46 := Tryz.isAgg265
  z46 := Tryz.sizeOf265
  v46 := Tryz.zeroValue265
  t51 := Tryz.underlying229
  a51 := Tryz.isAgg229
  z51 := Tryz.sizeOf229
  v51 := Tryz.zeroValue229
  t53 := Tryz.underlying53
  a53 := Tryz.isAgg53
  z53 := Tryz.sizeOf53
  v53 := Tryz.zeroValue53
  t131 := Tryz.underlying294
  a131 := Tryz.isAgg294
  z131 := Tryz.sizeOf294
  v131 := Tryz.zeroValue294
  t182 := Tryz.underlying318
  a182 := Tryz.isAgg318
  z182 := Tryz.sizeOf318
  v182 := Tryz.zeroValue318
  t183 := Tryz.underlying319
  a183 := Tryz.isAgg319
  z183 := Tryz.sizeOf319
  v183 := Tryz.zeroValue319
  t218 := Tryz.underlying337
  a218 := Tryz.isAgg337
  z218 := Tryz.sizeOf337
  v218 := Tryz.zeroValue337
  t222 := Tryz.underlying305
  a222 := Tryz.isAgg305
  z222 := Tryz.sizeOf305
  v222 := Tryz.zeroValue305
  t228 := Tryz.underlying340
  a228 := Tryz.isAgg340
  z228 := Tryz.sizeOf340
  v228 := Tryz.zeroValue340
  t229 := Tryz.underlying325
  a229 := Tryz.isAgg325
  z229 := Tryz.sizeOf325
  v229 := Tryz.zeroValue325 }
open Go.Sort Go.RowKit in
theorem sort_Strings (blk off cap : Nat) (ss : List (List UInt8)) (w : World) (hH : Holds encStr w blk off ss.toArray) (hblk : blk < w.heap.size) (hsz : ss.length < 4611686018427387904) :
    Calls Tryz.prog 119 #[.slice (some ⟨blk, off, none⟩) ss.length cap] w fun e w' =>
      e = .returned (.tuple #[]) ∧ ∃ n os, w' = grow (putRow encStr (Sort.ahead w n) blk off (ss.mergeSort fun x y => decide (x ≤ y)).toArray) os := Any.sort_Strings lays192 blk off cap ss w hH hblk hsz
def laysGt11_ren : Go.Shelf.Ren := ⟨fun | 11 => 106 | 17 => 122 | 18 => 123 | 31 => 139 | 32 => 140 | 33 => 141 | 34 => 142 | 35 => 143 | 36 => 144 | 37 => 145 | 38 => 146 | 39 => 147 | 40 => 148 | 43 => 155 | 44 => 156 | 45 => 157 | 46 => 158 | 47 => 159 | 50 => 178 | n => n, fun | 45 => 267 | 3 => 3 | 4 => 4 | 47 => 265 | 0 => 0 | 56 => 229 | 58 => 53 | 61 => 289 | 60 => 288 | 65 => 294 | 5 => 5 | 9 => 9 | 67 => 302 | 71 => 305 | 73 => 324 | 74 => 325 | 43 => 268 | 26 => 292 | 38 => 301 | n => n, fun | n => n⟩
theorem laysGt11 : Go.Proofs.LaysGt.n11 Tryz.prog laysGt11_ren := {
  mixed := by kernel_rfl
  f11 := Tryz.func106.trans (congrArg some (by kernel_rfl))
  f17 := Tryz.func122.trans (congrArg some (by kernel_rfl))
  f18 := Tryz.func123.trans (congrArg some (by kernel_rfl))
  f31 := Tryz.func139.trans (congrArg some (by kernel_rfl))
  f32 := Tryz.func140.trans (congrArg some (by kernel_rfl))
  f33 := Tryz.func141.trans (congrArg some (by kernel_rfl))
  f34 := Tryz.func142.trans (congrArg some (by kernel_rfl))
  f35 := Tryz.func143.trans (congrArg some (by kernel_rfl))
  f36 := Tryz.func144.trans (congrArg some (by kernel_rfl))
  f37 := Tryz.func145.trans (congrArg some (by kernel_rfl))
  f38 := Tryz.func146.trans (congrArg some (by kernel_rfl))
  f39 := Tryz.func147.trans (congrArg some (by kernel_rfl))
  f40 := Tryz.func148.trans (congrArg some (by kernel_rfl))
  f43 := Tryz.func155.trans (congrArg some (by kernel_rfl))
  f44 := Tryz.func156.trans (congrArg some (by kernel_rfl))
  f45 := Tryz.func157.trans (congrArg some (by kernel_rfl))
  f46 := Tryz.func158.trans (congrArg some (by kernel_rfl))
  f47 := Tryz.func159.trans (congrArg some (by kernel_rfl))
  f50 := Tryz.func178.trans (congrArg some (by kernel_rfl))
  t0 := Tryz.underlying0
  a0 := Tryz.isAgg0
  z0 := Tryz.sizeOf0
  v0 := Tryz.zeroValue0
  i0 := by kernel_rfl
  t3 := Tryz.underlying3
  a3 := Tryz.isAgg3
  z3 := Tryz.sizeOf3
  v3 := Tryz.zeroValue3
  i3 := by kernel_rfl
  t4 := Tryz.underlying4
  a4 := Tryz.isAgg4
  z4 := Tryz.sizeOf4
  v4 := Tryz.zeroValue4
  i4 := by kernel_rfl
  t5 := Tryz.underlying5
  a5 := Tryz.isAgg5
  z5 := Tryz.sizeOf5
  v5 := Tryz.zeroValue5
  i5 := by kernel_rfl
  t9 := Tryz.underlying9
  a9 := Tryz.isAgg9
  z9 := Tryz.sizeOf9
  v9 := Tryz.zeroValue9
  i9 := by kernel_rfl
  t26 := Tryz.underlying292
  a26 := Tryz.isAgg292
  z26 := Tryz.sizeOf292
  v26 := Tryz.zeroValue292
  i26 := by kernel_rfl
  t38 := Tryz.underlying301
  a38 := Tryz.isAgg301
  z38 := Tryz.sizeOf301
  v38 := Tryz.zeroValue301
  i38 := by kernel_rfl
  t43 := Tryz.underlying268
  a43 := Tryz.isAgg268
  z43 := Tryz.sizeOf268
  v43 := Tryz.zeroValue268
  i43 := by kernel_rfl
  t45 := Tryz.underlying267
  a45 := Tryz.isAgg267
  z45 := Tryz.sizeOf267
  v45 := Tryz.zeroValue267
  i45 := by kernel_rfl
  t47 := Tryz.underlying265
  a47 := Tryz.isAgg265
  z47 := Tryz.sizeOf265
  v47 := Tryz.zeroValue265
  i47 := by kernel_rfl
  t56 := Tryz.underlying229
  a56 := Tryz.isAgg229
  z56 := Tryz.sizeOf229
  v56 := Tryz.zeroValue229
  i56 := by kernel_rfl
  t58 := Tryz.underlying53
  a58 := Tryz.isAgg53
  z58 := Tryz.sizeOf53
  v58 := Tryz.zeroValue53
  i58 := by kernel_rfl
  t60 := Tryz.underlying288
  a60 := Tryz.isAgg288
  z60 := Tryz.sizeOf288
  v60 := Tryz.zeroValue288
  i60 := by kernel_rfl
  t61 := Tryz.underlying289
  a61 := Tryz.isAgg289
  z61 := Tryz.sizeOf289
  v61 := Tryz.zeroValue289
  i61 := by kernel_rfl
  t65 := Tryz.underlying294
  a65 := Tryz.isAgg294
  z65 := Tryz.sizeOf294
  v65 := Tryz.zeroValue294
  i65 := by kernel_rfl
  t67 := Tryz.underlying302
  a67 := Tryz.isAgg302
  z67 := Tryz.sizeOf302
  v67 := Tryz.zeroValue302
  i67 := by kernel_rfl
  t71 := Tryz.underlying305
  a71 := Tryz.isAgg305
  z71 := Tryz.sizeOf305
  v71 := Tryz.zeroValue305
  i71 := by kernel_rfl
  t73 := Tryz.underlying324
  a73 := Tryz.isAgg324
  z73 := Tryz.sizeOf324
  v73 := Tryz.zeroValue324
  i73 := by kernel_rfl
  t74 := Tryz.underlying325
  a74 := Tryz.isAgg325
  z74 := Tryz.sizeOf325
  v74 := Tryz.zeroValue325
  i74 := by kernel_rfl }
open Go.RowKit Go.Lib Go.Sort in
theorem sort_Sort_tiny {α : Type} [Inhabited α] (T : TypeId) (rv : Value) (gn : Nat) (rN : Reaches Tryz.prog T rv "Len" gn) (n : Nat) (hn : n ≤ 1) (w : World) (hlen : LenM Tryz.prog gn rv n w) :
    Calls Tryz.prog 106 #[.iface T rv] w fun e w' => e = .returned (.tuple #[]) ∧ ∃ q, w' = w.drewN q := Any.sort_Sort_tiny laysGt11 T rv gn rN n hn w hlen
open Go.RowKit Go.Lib Go.Sort in
theorem sort_Sort_sorted {α : Type} [Inhabited α] (T : TypeId) (rv : Value) (gn gl gs : Nat) (rN : Reaches Tryz.prog T rv "Len" gn) (rL : Reaches Tryz.prog T rv "Less" gl) (rS : Reaches Tryz.prog T rv "Swap" gs) (enc : α → Value) (lt : α → α → Bool) (hO : SWO lt) (blk off : Nat) (d : Array α) (h2 : 2 ≤ d.size) (hsz : d.size < 4611686018427387904) (w : World) (hlen : LenM Tryz.prog gn rv d.size w) (hless : LessM Tryz.prog gl rv enc lt blk off d.size w) (hswap : SwapM Tryz.prog gs rv enc blk off d.size) (hH : Holds enc w blk off d) (hblk : blk < w.heap.size) :
    Calls Tryz.prog 106 #[.iface T rv] w fun e w' => e = .returned (.tuple #[]) ∧ ∃ d' n os, PermIn 0 d.size d d' ∧ SortedIn lt 0 d.size d' ∧ w' = grow (putRow enc (Sort.ahead w n) blk off d') os := Any.sort_Sort_sorted laysGt11 T rv gn gl gs rN rL rS enc lt hO blk off d h2 hsz w hlen hless hswap hH hblk
def lays99_ren : Go.Shelf.Ren := ⟨fun | 99 => 137 | 206 => 153 | n => n, fun | 9 => 9 | 4 => 4 | 3 => 3 | n => n, fun | n => n⟩
theorem lays99 : Go.Proofs.Lays.n99 Tryz.prog lays99_ren := {
  mixed := by kernel_rfl
  f99 := Tryz.func137.trans (congrArg some (by kernel_rfl))
  f206 := Tryz.func153.trans (congrArg some (by kernel_rfl))
  t3 := Tryz.underlying3
  a3 := Tryz.isAgg3
  z3 := Tryz.sizeOf3
  v3 := Tryz.zeroValue3
  t4 := Tryz.underlying4
  a4 := Tryz.isAgg4
  z4 := Tryz.sizeOf4
  v4 := Tryz.zeroValue4
  t9 := Tryz.underlying9
  a9 := Tryz.isAgg9
  z9 := Tryz.sizeOf9
  v9 := Tryz.zeroValue9 }
open Go.RowKit Go.Lib in
theorem strings_HasPrefix (s p : ByteArray) (w : World) :
    Calls Tryz.prog 137 #[.string s, .string p] w fun e w' => e = .returned (.bool (Lib.hasPrefix s.data.toList p.data.toList)) ∧ w' = w := Any.strings_HasPrefix lays99 s p w
open Go.RowKit Go.Sort in
theorem sort_Strings_none (p : Option Addr) (cap : Nat) (w : World) :
    Calls Tryz.prog 119 #[.slice p 0 cap] w fun e w' => e = .returned (.tuple #[]) ∧ w' = w := Any.sort_Strings_none lays192 p cap w
def laysValid_ren : Go.Shelf.Ren := ⟨fun | 196 => 104 | 259 => 121 | n => n, fun | 9 => 9 | 4 => 4 | 3 => 3 | 5 => 5 | 12 => 12 | 119 => 261 | 0 => 0 | 46 => 265 | 139 => 264 | 138 => 263 | 53 => 53 | n => n, fun | 3 => 3 | 4 => 4 | n => n⟩
theorem laysValid : Go.Proofs.Lays.n196 Tryz.prog laysValid_ren := {
  mixed := by kernel_rfl
  f196 := Tryz.func104.trans (congrArg some (by kernel_rfl))
  f259 := Tryz.func121.trans (congrArg some (by kernel_rfl))
  t0 := Tryz.underlying0
  a0 := Tryz.isAgg0
  z0 := Tryz.sizeOf0
  v0 := Tryz.zeroValue0
  t3 := Tryz.underlying3
  a3 := Tryz.isAgg3
  z3 := Tryz.sizeOf3
  v3 := Tryz.zeroValue3
  t4 := Tryz.underlying4
  a4 := Tryz.isAgg4
  z4 := Tryz.sizeOf4
  v4 := Tryz.zeroValue4
  t5 := Tryz.underlying5
  a5 := Tryz.isAgg5
  z5 := Tryz.sizeOf5
  v5 := Tryz.zeroValue5
  t9 := Tryz.underlying9
  a9 := Tryz.isAgg9
  z9 := Tryz.sizeOf9
  v9 := Tryz.zeroValue9
  t12 := Tryz.underlying12
  a12 := Tryz.isAgg12
  z12 := Tryz.sizeOf12
  v12 := Tryz.zeroValue12
  t46 := Tryz.underlying265
  a46 := Tryz.isAgg265
  z46 := Tryz.sizeOf265
  v46 := Tryz.zeroValue265
  t53 := Tryz.underlying53
  a53 := Tryz.isAgg53
  z53 := Tryz.sizeOf53
  v53 := Tryz.zeroValue53
  t119 := Tryz.underlying261
  a119 := Tryz.isAgg261
  z119 := Tryz.sizeOf261
  t138 := Tryz.underlying263
  a138 := Tryz.isAgg263
  z138 := Tryz.sizeOf263
  v138 := Tryz.zeroValue263
  t139 := Tryz.underlying264
  a139 := Tryz.isAgg264
  z139 := Tryz.sizeOf264
  v139 := Tryz.zeroValue264
  g3 := by kernel_rfl
  g4 := by kernel_rfl }
open Go.RowKit in
theorem utf8_ValidString (s : ByteArray) (w : World) (hs : s.size ≤ 9223372036854775807) (hT : Lib.Utf8Tabs 3 4 w) :
    Calls Tryz.prog 104 #[.string s] w fun e w' => e = .returned (.bool (Lib.validD s.data.toList)) ∧ Below w.heap.size w w' := Any.utf8_ValidString laysValid s w hs hT
end Go.Proofs.YtfcpapbokefdmaaGreatDoor.Sh
