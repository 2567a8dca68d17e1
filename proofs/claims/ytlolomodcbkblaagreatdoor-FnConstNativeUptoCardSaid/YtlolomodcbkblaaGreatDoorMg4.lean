/- Contracts of the library's functions, laid by the shelf's own tool for this program: utf8_ValidString, sort_Strings, sort_Strings_none, strings_HasPrefix, sort_Sort_sorted, sort_Sort_tiny. Descriptors: the globals; small functions walked: which names are valid; the option; the labels compiled. -/
import Derived.Shelf.Strings.Builder1
import Derived.Shelf.Strings.Builder2
import Derived.Shelf.Small.Bits
import Derived.Shelf.Strings.BuilderF
import Derived.Shelf.Strings.BuilderK
import Derived.Shelf.Utf8.RuneCount
import Derived.Shelf.Strconv.Itoa0
import Derived.Shelf.Sort.Plain
import Derived.Shelf.GgSortFunc.Insertion
import Derived.Shelf.GgSortFunc.Tiny
import Derived.Shelf.GgSortFunc.Compose
import Derived.Shelf.GgSortMore.Stable
import Derived.Shelf.GgSortMore.Iface
import Derived.Shelf.GgSortMore.IfaceD
import Derived.Shelf.GgSortMore.IfacePart
import Derived.Shelf.GgSortMore.IfacePdq
import Derived.Shelf.GgSortMore.SortSort
import Derived.Shelf.Strings.Prefix
import Derived.Shelf.Strings.RuneCount
import Derived.Shelf.Slices.SearchI
import Derived.Shelf.Slices.In.SortNone
import Derived.Shelf.Slices.In.SortNone2
import Derived.Shelf.SlSortFunc.Xorshift
import Derived.Shelf.SlSortIface.SiftDown
import Derived.Shelf.SlSortIface.HeapSort
import Derived.Shelf.SlSortIface.PartialInsertion
import Derived.Shelf.Unicode.ValidAny
import Derived.Test.YtlolomodcbkblaaGreatDoorProg
import Derived.Test.YtlolomodcbkblaaGreatDoorMg3
import Derived.Shelf.Unicode.DecodeSlow
import Derived.Lib.ValidAsc
import Derived.Deep.QuietTactic
import Derived.BigQuiet
import Derived.Below
namespace Go.Proofs.YtlolomodcbkblaaGreatDoor.Sh
open Go.Shelf Go.Proofs
def lays192_ren : Go.Shelf.Ren := ⟨fun | 192 => 120 | 190 => 141 | 125 => 142 | 258 => 159 | 128 => 160 | 129 => 161 | 302 => 175 | 303 => 176 | 304 => 177 | 305 => 178 | 306 => 179 | 307 => 180 | 308 => 181 | 309 => 182 | 310 => 183 | 333 => 202 | 329 => 203 | 330 => 204 | 334 => 205 | 335 => 206 | 336 => 207 | 344 => 224 | n => n, fun | 31 => 64 | 0 => 0 | 9 => 9 | 3 => 3 | 46 => 343 | 51 => 254 | 53 => 31 | 4 => 4 | 183 => 374 | 182 => 373 | 131 => 365 | 5 => 5 | 218 => 398 | 222 => 383 | 228 => 412 | 229 => 402 | n => n, fun | n => n⟩
theorem lays192 : Go.Proofs.Lays.n192 Tryz.prog lays192_ren := {
  mixed := by kernel_rfl
  f125 := Tryz.func142.trans (congrArg some (by kernel_rfl))
  f128 := Tryz.func160.trans (congrArg some (by kernel_rfl))
  f129 := Tryz.func161.trans (congrArg some (by kernel_rfl))
  f190 := Tryz.func141.trans (congrArg some (by kernel_rfl))
  f192 := Tryz.func120.trans (congrArg some (by kernel_rfl))
  f258 := Tryz.func159.trans (congrArg some (by kernel_rfl))
  f302 := Tryz.func175.trans (congrArg some (by kernel_rfl))
  f303 := Tryz.func176.trans (congrArg some (by kernel_rfl))
  f304 := Tryz.func177.trans (congrArg some (by kernel_rfl))
  f305 := Tryz.func178.trans (congrArg some (by kernel_rfl))
  f306 := Tryz.func179.trans (congrArg some (by kernel_rfl))
  f307 := Tryz.func180.trans (congrArg some (by kernel_rfl))
  f308 := Tryz.func181.trans (congrArg some (by kernel_rfl))
  f309 := Tryz.func182.trans (congrArg some (by kernel_rfl))
  f310 := Tryz.func183.trans (congrArg some (by kernel_rfl))
  f329 := Tryz.func203.trans (congrArg some (by kernel_rfl))
  f330 := Tryz.func204.trans (congrArg some (by kernel_rfl))
  f333 := Tryz.func202.trans (congrArg some (by kernel_rfl))
  f334 := Tryz.func205.trans (congrArg some (by kernel_rfl))
  f335 := Tryz.func206.trans (congrArg some (by kernel_rfl))
  f336 := Tryz.func207.trans (congrArg some (by kernel_rfl))
  f344 := Tryz.func224.trans (congrArg some (by kernel_rfl))
  t0 := Tryz.underlying0
  a0 := Tryz.isAgg0
  z0 := Tryz.sizeOf0
  v0 := Tryz.zeroValue0
  t3 := Tryz.underlying3
  a3 := Tryz.isAgg3
  z3 := Tryz.sizeOf3
  v3 := Tryz.zeroValue3
  t4 := Tryz.underlying4
  a4 := Tryz.isAgg4
  z4 := Tryz.sizeOf4
  v4 := Tryz.zeroValue4
  t5 := Tryz.underlying5
  a5 := Tryz.isAgg5
  z5 := Tryz.sizeOf5
  v5 := Tryz.zeroValue5
  t9 := Tryz.underlying9
  a9 := Tryz.isAgg9
  z9 := Tryz.sizeOf9
  v9 := Tryz.zeroValue9
  t31 := Tryz.underlying64
  a31 := Tryz.isAgg64
  z31 := Tryz.sizeOf64
  v31 := Tryz.zeroValue64
  t46 := Tryz.underlying343
  a46 := Tryz.isAgg343
  z46 := Tryz.sizeOf343
  v46 := Tryz.zeroValue343
  t51 := Tryz.underlying254
  a51 := Tryz.isAgg254
  z51 := Tryz.sizeOf254
  v51 := Tryz.zeroValue254
  t53 := Tryz.underlying31
  a53 := Tryz.isAgg31
  z53 := Tryz.sizeOf31
  v53 := Tryz.zeroValue31
  t131 := Tryz.underlying365
  a131 := Tryz.isAgg365
  z131 := Tryz.sizeOf365
  v131 := Tryz.zeroValue365
  t182 := Tryz.underlying373
  a182 := Tryz.isAgg373
  z182 := Tryz.sizeOf373
  v182 := Tryz.zeroValue373
  t183 := Tryz.underlying374
  a183 := Tryz.isAgg374
  z183 := Tryz.sizeOf374
  v183 := Tryz.zeroValue374
  t218 := Tryz.underlying398
  a218 := Tryz.isAgg398
  z218 := Tryz.sizeOf398
  v218 := Tryz.zeroValue398
  t222 := Tryz.underlying383
  a222 := Tryz.isAgg383
  z222 := Tryz.sizeOf383
  v222 := Tryz.zeroValue383
  t228 := Tryz.underlying412
  a228 := Tryz.isAgg412
  z228 := Tryz.sizeOf412
  v228 := Tryz.zeroValue412
  t229 := Tryz.underlying402
  a229 := Tryz.isAgg402
  z229 := Tryz.sizeOf402
  v229 := Tryz.zeroValue402 }
open Go.Sort Go.RowKit in
theorem sort_Strings (blk off cap : Nat) (ss : List (List UInt8)) (w : World) (hH : Holds encStr w blk off ss.toArray) (hblk : blk < w.heap.size) (hsz : ss.length < 4611686018427387904) :
    Calls Tryz.prog 120 #[.slice (some ⟨blk, off, none⟩) ss.length cap] w fun e w' =>
      e = .returned (.tuple #[]) ∧ ∃ n os, w' = grow (putRow encStr (Sort.ahead w n) blk off (ss.mergeSort fun x y => decide (x ≤ y)).toArray) os := Any.sort_Strings lays192 blk off cap ss w hH hblk hsz
def laysGt11_ren : Go.Shelf.Ren := ⟨fun | 11 => 122 | 17 => 142 | 18 => 143 | 31 => 160 | 32 => 161 | 33 => 162 | 34 => 163 | 35 => 164 | 36 => 165 | 37 => 166 | 38 => 167 | 39 => 168 | 40 => 169 | 43 => 184 | 44 => 185 | 45 => 186 | 46 => 187 | 47 => 188 | 50 => 208 | n => n, fun | 45 => 340 | 3 => 3 | 4 => 4 | 47 => 343 | 0 => 0 | 56 => 254 | 58 => 31 | 61 => 360 | 60 => 359 | 65 => 365 | 5 => 5 | 9 => 9 | 67 => 380 | 71 => 383 | 73 => 401 | 74 => 402 | 43 => 341 | 26 => 363 | 38 => 379 | n => n, fun | n => n⟩
theorem laysGt11 : Go.Proofs.LaysGt.n11 Tryz.prog laysGt11_ren := {
  mixed := by kernel_rfl
  f11 := Tryz.func122.trans (congrArg some (by kernel_rfl))
  f17 := Tryz.func142.trans (congrArg some (by kernel_rfl))
  f18 := Tryz.func143.trans (congrArg some (by kernel_rfl))
  f31 := Tryz.func160.trans (congrArg some (by kernel_rfl))
  f32 := Tryz.func161.trans (congrArg some (by kernel_rfl))
  f33 := Tryz.func162.trans (congrArg some (by kernel_rfl))
  f34 := Tryz.func163.trans (congrArg some (by kernel_rfl))
  f35 := Tryz.func164.trans (congrArg some (by kernel_rfl))
  f36 := Tryz.func165.trans (congrArg some (by kernel_rfl))
  f37 := Tryz.func166.trans (congrArg some (by kernel_rfl))
  f38 := Tryz.func167.trans (congrArg some (by kernel_rfl))
  f39 := Tryz.func168.trans (congrArg some (by kernel_rfl))
  f40 := Tryz.func169.trans (congrArg some (by kernel_rfl))
  f43 := Tryz.func184.trans (congrArg some (by kernel_rfl))
  f44 := Tryz.func185.trans (congrArg some (by kernel_rfl))
  f45 := Tryz.func186.trans (congrArg some (by kernel_rfl))
  f46 := Tryz.func187.trans (congrArg some (by kernel_rfl))
  f47 := Tryz.func188.trans (congrArg some (by kernel_rfl))
  f50 := Tryz.func208.trans (congrArg some (by kernel_rfl))
  t0 := Tryz.underlying0
  a0 := Tryz.isAgg0
  z0 := Tryz.sizeOf0
  v0 := Tryz.zeroValue0
  i0 := by kernel_rfl
  t3 := Tryz.underlying3
  a3 := Tryz.isAgg3
  z3 := Tryz.sizeOf3
  v3 := Tryz.zeroValue3
  i3 := by kernel_rfl
  t4 := Tryz.underlying4
  a4 := Tryz.isAgg4
  z4 := Tryz.sizeOf4
  v4 := Tryz.zeroValue4
  i4 := by kernel_rfl
  t5 := Tryz.underlying5
  a5 := Tryz.isAgg5
  z5 := Tryz.sizeOf5
  v5 := Tryz.zeroValue5
  i5 := by kernel_rfl
  t9 := Tryz.underlying9
  a9 := Tryz.isAgg9
  z9 := Tryz.sizeOf9
  v9 := Tryz.zeroValue9
  i9 := by kernel_rfl
  t26 := Tryz.underlying363
  a26 := Tryz.isAgg363
  z26 := Tryz.sizeOf363
  v26 := Tryz.zeroValue363
  i26 := by kernel_rfl
  t38 := Tryz.underlying379
  a38 := Tryz.isAgg379
  z38 := Tryz.sizeOf379
  v38 := Tryz.zeroValue379
  i38 := by kernel_rfl
  t43 := Tryz.underlying341
  a43 := Tryz.isAgg341
  z43 := Tryz.sizeOf341
  v43 := Tryz.zeroValue341
  i43 := by kernel_rfl
  t45 := Tryz.underlying340
  a45 := Tryz.isAgg340
  z45 := Tryz.sizeOf340
  v45 := Tryz.zeroValue340
  i45 := by kernel_rfl
  t47 := Tryz.underlying343
  a47 := Tryz.isAgg343
  z47 := Tryz.sizeOf343
  v47 := Tryz.zeroValue343
  i47 := by kernel_rfl
  t56 := Tryz.underlying254
  a56 := Tryz.isAgg254
  z56 := Tryz.sizeOf254
  v56 := Tryz.zeroValue254
  i56 := by kernel_rfl
  t58 := Tryz.underlying31
  a58 := Tryz.isAgg31
  z58 := Tryz.sizeOf31
  v58 := Tryz.zeroValue31
  i58 := by kernel_rfl
  t60 := Tryz.underlying359
  a60 := Tryz.isAgg359
  z60 := Tryz.sizeOf359
  v60 := Tryz.zeroValue359
  i60 := by kernel_rfl
  t61 := Tryz.underlying360
  a61 := Tryz.isAgg360
  z61 := Tryz.sizeOf360
  v61 := Tryz.zeroValue360
  i61 := by kernel_rfl
  t65 := Tryz.underlying365
  a65 := Tryz.isAgg365
  z65 := Tryz.sizeOf365
  v65 := Tryz.zeroValue365
  i65 := by kernel_rfl
  t67 := Tryz.underlying380
  a67 := Tryz.isAgg380
  z67 := Tryz.sizeOf380
  v67 := Tryz.zeroValue380
  i67 := by kernel_rfl
  t71 := Tryz.underlying383
  a71 := Tryz.isAgg383
  z71 := Tryz.sizeOf383
  v71 := Tryz.zeroValue383
  i71 := by kernel_rfl
  t73 := Tryz.underlying401
  a73 := Tryz.isAgg401
  z73 := Tryz.sizeOf401
  v73 := Tryz.zeroValue401
  i73 := by kernel_rfl
  t74 := Tryz.underlying402
  a74 := Tryz.isAgg402
  z74 := Tryz.sizeOf402
  v74 := Tryz.zeroValue402
  i74 := by kernel_rfl }
open Go.RowKit Go.Lib Go.Sort in
theorem sort_Sort_tiny {α : Type} [Inhabited α] (T : TypeId) (rv : Value) (gn : Nat) (rN : Reaches Tryz.prog T rv "Len" gn) (n : Nat) (hn : n ≤ 1) (w : World) (hlen : LenM Tryz.prog gn rv n w) :
    Calls Tryz.prog 122 #[.iface T rv] w fun e w' => e = .returned (.tuple #[]) ∧ ∃ q, w' = w.drewN q := Any.sort_Sort_tiny laysGt11 T rv gn rN n hn w hlen
open Go.RowKit Go.Lib Go.Sort in
theorem sort_Sort_sorted {α : Type} [Inhabited α] (T : TypeId) (rv : Value) (gn gl gs : Nat) (rN : Reaches Tryz.prog T rv "Len" gn) (rL : Reaches Tryz.prog T rv "Less" gl) (rS : Reaches Tryz.prog T rv "Swap" gs) (enc : α → Value) (lt : α → α → Bool) (hO : SWO lt) (blk off : Nat) (d : Array α) (h2 : 2 ≤ d.size) (hsz : d.size < 4611686018427387904) (w : World) (hlen : LenM Tryz.prog gn rv d.size w) (hless : LessM Tryz.prog gl rv enc lt blk off d.size w) (hswap : SwapM Tryz.prog gs rv enc blk off d.size) (hH : Holds enc w blk off d) (hblk : blk < w.heap.size) :
    Calls Tryz.prog 122 #[.iface T rv] w fun e w' => e = .returned (.tuple #[]) ∧ ∃ d' n os, PermIn 0 d.size d d' ∧ SortedIn lt 0 d.size d' ∧ w' = grow (putRow enc (Sort.ahead w n) blk off d') os := Any.sort_Sort_sorted laysGt11 T rv gn gl gs rN rL rS enc lt hO blk off d h2 hsz w hlen hless hswap hH hblk
def lays99_ren : Go.Shelf.Ren := ⟨fun | 99 => 140 | 206 => 158 | n => n, fun | 9 => 9 | 4 => 4 | 3 => 3 | n => n, fun | n => n⟩
theorem lays99 : Go.Proofs.Lays.n99 Tryz.prog lays99_ren := {
  mixed := by kernel_rfl
  f99 := Tryz.func140.trans (congrArg some (by kernel_rfl))
  f206 := Tryz.func158.trans (congrArg some (by kernel_rfl))
  t3 := Tryz.underlying3
  a3 := Tryz.isAgg3
  z3 := Tryz.sizeOf3
  v3 := Tryz.zeroValue3
  t4 := Tryz.underlying4
  a4 := Tryz.isAgg4
  z4 := Tryz.sizeOf4
  v4 := Tryz.zeroValue4
  t9 := Tryz.underlying9
  a9 := Tryz.isAgg9
  z9 := Tryz.sizeOf9
  v9 := Tryz.zeroValue9 }
open Go.RowKit Go.Lib in
theorem strings_HasPrefix (s p : ByteArray) (w : World) :
    Calls Tryz.prog 140 #[.string s, .string p] w fun e w' => e = .returned (.bool (Lib.hasPrefix s.data.toList p.data.toList)) ∧ w' = w := Any.strings_HasPrefix lays99 s p w
open Go.RowKit Go.Sort in
theorem sort_Strings_none (p : Option Addr) (cap : Nat) (w : World) :
    Calls Tryz.prog 120 #[.slice p 0 cap] w fun e w' => e = .returned (.tuple #[]) ∧ w' = w := Any.sort_Strings_none lays192 p cap w
def laysValid_ren : Go.Shelf.Ren := ⟨fun | 196 => 133 | 259 => 156 | n => n, fun | 9 => 9 | 4 => 4 | 3 => 3 | 5 => 5 | 12 => 12 | 119 => 351 | 0 => 0 | 46 => 343 | 139 => 354 | 138 => 353 | 53 => 31 | n => n, fun | 3 => 3 | 4 => 4 | n => n⟩
theorem laysValid : Go.Proofs.Lays.n196 Tryz.prog laysValid_ren := {
  mixed := by kernel_rfl
  f196 := Tryz.func133.trans (congrArg some (by kernel_rfl))
  f259 := Tryz.func156.trans (congrArg some (by kernel_rfl))
  t0 := Tryz.underlying0
  a0 := Tryz.isAgg0
  z0 := Tryz.sizeOf0
  v0 := Tryz.zeroValue0
  t3 := Tryz.underlying3
  a3 := Tryz.isAgg3
  z3 := Tryz.sizeOf3
  v3 := Tryz.zeroValue3
  t4 := Tryz.underlying4
  a4 := Tryz.isAgg4
  z4 := Tryz.sizeOf4
  v4 := Tryz.zeroValue4
  t5 := Tryz.underlying5
  a5 := Tryz.isAgg5
  z5 := Tryz.sizeOf5
  v5 := Tryz.zeroValue5
  t9 := Tryz.underlying9
  a9 := Tryz.isAgg9
  z9 := Tryz.sizeOf9
  v9 := Tryz.zeroValue9
  t12 := Tryz.underlying12
  a12 := Tryz.isAgg12
  z12 := Tryz.sizeOf12
  v12 := Tryz.zeroValue12
  t46 := Tryz.underlying343
  a46 := Tryz.isAgg343
  z46 := Tryz.sizeOf343
  v46 := Tryz.zeroValue343
  t53 := Tryz.underlying31
  a53 := Tryz.isAgg31
  z53 := Tryz.sizeOf31
  v53 := Tryz.zeroValue31
  t119 := Tryz.underlying351
  a119 := Tryz.isAgg351
  z119 := Tryz.sizeOf351
  t138 := Tryz.underlying353
  a138 := Tryz.isAgg353
  z138 := Tryz.sizeOf353
  v138 := Tryz.zeroValue353
  t139 := Tryz.underlying354
  a139 := Tryz.isAgg354
  z139 := Tryz.sizeOf354
  v139 := Tryz.zeroValue354
  g3 := by kernel_rfl
  g4 := by kernel_rfl }
open Go.RowKit in
theorem utf8_ValidString (s : ByteArray) (w : World) (hs : s.size ≤ 9223372036854775807) (hT : Lib.Utf8Tabs 3 4 w) :
    Calls Tryz.prog 133 #[.string s] w fun e w' => e = .returned (.bool (Lib.validD s.data.toList)) ∧ Below w.heap.size w w' := Any.utf8_ValidString laysValid s w hs hT
end Go.Proofs.YtlolomodcbkblaaGreatDoor.Sh

set_option linter.unusedVariables false
set_option linter.unusedSimpArgs false
namespace Go.Proofs.YtlolomodcbkblaaGreatDoor.Nd
open Go.RowKit Go.ChangeShapes Go.WideShapes Go.Deep Fp

theorem bch {w0 w w' : World} (h : Below w0.heap.size w0 w) (k : Below w.heap.size w w') : Below w0.heap.size w0 w' := h.trans (k.mono h.size)
theorem bdr {B : Nat} {a w : World} (h : Below B a w) (n : Nat) : Below B a (w.drewN n) := h.trans ⟨rfl, rfl, rfl, Nat.le_refl _, fun _ _ => rfl⟩
/-- the separator, as its initialiser lays it -/
def Sep (w : World) : Prop := ∃ b off cap, w.cell? ⟨1, 0, none⟩ = some (.slice (some ⟨b, off, none⟩) 1 cap) ∧ w.cell? ⟨b, off, none⟩ = some (.int .u8 255) ∧ b < w.heap.size ∧ 1 < w.heap.size
structure Glob (w : World) : Prop where
  tabs : Lib.Utf8Tabs 3 4 w
  sep : Sep w
theorem Sep.below {w w' : World} (h : Sep w) (k : Below w.heap.size w w') : Sep w' := by
  obtain ⟨b, off, cap, h1, h2, h3, h4⟩ := h
  exact ⟨b, off, cap, by rw [k.cell (p := ⟨1, 0, none⟩) h4]; exact h1, by rw [k.cell (p := ⟨b, off, none⟩) h3]; exact h2, Nat.lt_of_lt_of_le h3 k.size, Nat.lt_of_lt_of_le h4 k.size⟩
theorem Glob.below {w w' : World} (h : Glob w) (k : Below w.heap.size w w') : Glob w' := ⟨Utf8Tabs_below h.tabs k, h.sep.below k⟩

def Asc (s : ByteArray) : Prop := ∀ b ∈ dl s, b.toNat < 128
theorem asc_valid {s : ByteArray} (h : Asc s) : Lib.validD s.data.toList = true := by
  have h1 : Lib.Asc s s.size := fun b hb => h b (List.mem_of_mem_take hb)
  rw [← Lib.valid_skip s s.size h1, Lib.ext_list, List.drop_of_length_le (by rw [Lib.size_eq]; exact Nat.le_refl _)]
  rfl
theorem valid_any (s : ByteArray) (w : World) (hG : Glob w) (hs : s.size ≤ 9223372036854775807) (ha : Asc s) :
    Calls Tryz.prog 133 #[.string s] w fun e w' => e = .returned (.bool true) ∧ Below w.heap.size w w' := by
  refine (Sh.utf8_ValidString s w hs hG.tabs).mono ?_
  rintro e w' ⟨rfl, hb⟩
  exact ⟨by rw [asc_valid ha], hb⟩

/-- a name that is valid, whatever it is used for -/
structure NameOk (s : ByteArray) : Prop where
  pos : 0 < s.size
  le : s.size ≤ 2147483647
  asc : Asc s
  free : Lib.hasPrefix s.data.toList [95, 95] = false

set_option maxHeartbeats 2000000 in
set_option maxRecDepth 100000 in
theorem metric_any (s : ByteArray) (w : World) (hG : Glob w) (hs : s.size ≤ 2147483647) (h0 : 0 < s.size) (ha : Asc s) :
    Calls Tryz.prog 118 #[.string s] w fun e w' => e = .returned (.bool true) ∧ Below w.heap.size w w' := by
  have C := Lib.hid (valid_any s w hG (by omega) ha)
  have z : (0 : Int) < (s.size : Int) := by omega
  clear hG ha
  go_enter Tryz.func118, Tryz.ntmps118
  go_wp2_with (go_at_call 133; refine C.out.mono ?_; rintro e w' ⟨rfl, hb⟩; have HB := Lib.hid hb; clear hb)
  go_ret
  exact ⟨rfl, HB.out⟩
set_option maxHeartbeats 2000000 in
set_option maxRecDepth 100000 in
theorem label_any (s : ByteArray) (w : World) (hG : Glob w) (hs : s.size ≤ 2147483647) (h0 : 0 < s.size) (ha : Asc s) :
    Calls Tryz.prog 139 #[.string s] w fun e w' => e = .returned (.bool true) ∧ Below w.heap.size w w' := by
  have C := Lib.hid (valid_any s w hG (by omega) ha)
  have z : (0 : Int) < (s.size : Int) := by omega
  clear hG ha
  go_enter Tryz.func139, Tryz.ntmps139
  go_wp2_with (go_at_call 133; refine C.out.mono ?_; rintro e w' ⟨rfl, hb⟩; have HB := Lib.hid hb; clear hb)
  go_ret
  exact ⟨rfl, HB.out⟩
set_option maxHeartbeats 2000000 in
set_option maxRecDepth 100000 in
theorem check_any (s : ByteArray) (w : World) (hG : Glob w) (h : NameOk s) :
    Calls Tryz.prog 119 #[.string s] w fun e w' => e = .returned (.bool true) ∧ Below w.heap.size w w' := by
  have C := Lib.hid (label_any s w hG h.le h.pos h.asc)
  have HP : Hid (Lib.hasPrefix s.data.toList (ByteArray.mk #[95, 95]).data.toList = false) := h.free
  clear hG h
  go_enter Tryz.func119, Tryz.ntmps119
  go_wp2_with (first
    | (go_at_call 139; refine C.out.mono ?_; rintro e w' ⟨rfl, hb⟩; have HB := Lib.hid hb; clear hb)
    | (go_at_call 140; refine (Sh.strings_HasPrefix _ _ _).mono ?_; rintro e w2 ⟨rfl, rfl⟩; rw [HP.out]))
  go_ret
  exact ⟨rfl, HB.out⟩

set_option maxHeartbeats 4000000 in
set_option maxRecDepth 100000 in
theorem values_any (vs : List ByteArray) (v : Value) (w : World) (hv : Sl.Of Value.string w v vs) (hG : Glob w) (hl : vs.length ≤ 9223372036854775806) (ha : ∀ s ∈ vs, Asc s ∧ s.size ≤ 9223372036854775807) :
    Calls Tryz.prog 101 #[v, .int .i64 vs.length] w fun e w' => e = .returned .nilIface ∧ Below w.heap.size w w' := by
  obtain ⟨a, cap, rfl⟩ : ∃ a cap, v = .slice a vs.length cap := by
    rcases hv with ⟨rfl, a, cap, rfl, _⟩ | ⟨b, off, cap, rfl, _⟩
    · exact ⟨_, _, rfl⟩
    · exact ⟨_, _, rfl⟩
  have HV := Lib.hid hv
  have HG := Lib.hid hG
  have HA := Lib.hid ha
  clear hv hG ha
  go_enter Tryz.func101, Tryz.ntmps101
  go_wp2
  go_loopw [14] (fun i wr => ∃ k : Nat, k ≤ vs.length ∧ i = .int .i64 (k : Int) ∧ Hid (Below w.heap.size w wr)) (fun i _ => vs.length - (intOf i).toNat)
  case atStart => exact ⟨0, Nat.zero_le _, rfl, Below.refl _ _⟩
  case round =>
    obtain ⟨k, hk, rfl, hbw⟩ := hrel
    by_cases hlt : k < vs.length
    · obtain ⟨b, off, haq, hbb, hc⟩ : ∃ b off, a = some ⟨b, off, none⟩ ∧ b < w.heap.size ∧ w.cell? ⟨b, off + k, none⟩ = some (.string vs[k]) := by
        rcases HV.out with ⟨h, _⟩ | ⟨b, off, cap, h, h0, hcap, hm, hbb, hcell⟩
        · rw [h] at hlt; simp at hlt
        · injection h with h1 h2 h3
          exact ⟨b, off, h1, hbb, hcell k hlt⟩
      subst haq
      have hok := HA.out _ (List.getElem_mem hlt)
      obtain ⟨s, hs⟩ : ∃ s, vs[k] = s := ⟨_, rfl⟩
      rw [hs] at hok hc
      have c0 : wr.cell? ⟨b, off + k, none⟩ = some (.string s) := by rw [hbw.out.cell (p := ⟨b, off + k, none⟩) hbb]; exact hc
      have C := Lib.hid (valid_any s wr (HG.out.below hbw.out) hok.2 hok.1)
      have z1 : (0 : Int) ≤ (k : Int) := by omega
      have z2 : (k : Int) < (vs.length : Int) := by omega
      clear hs hok hc
      go_wp2_with (go_at_call 133; refine C.out.mono ?_; rintro e w' ⟨rfl, hb⟩; have HB := Lib.hid (bch hbw.out hb); clear hb)
      go_roundw
      case rel => exact ⟨k + 1, by omega, by go_num, HB.out⟩
      case measure => simp [intOf]; omega
    · obtain rfl : k = vs.length := by omega
      go_wp2
      go_ret
      exact ⟨rfl, hbw.out⟩

set_option maxRecDepth 100000 in
theorem text_any (s : ByteArray) (w : World) : Calls Tryz.prog 121 #[.string s] w fun e w' => e = .returned (.pointer (some ⟨w.heap.size, 0, none⟩)) ∧ w' = w.alloc (.cells #[.string s] 9) := by
  go_enter Tryz.func121, Tryz.ntmps121
  go_wp2_with fail
  go_ret
  exact ⟨rfl, rfl⟩
set_option maxRecDepth 100000 in
theorem unit_any (s : ByteArray) (w : World) : Calls Tryz.prog 84 #[.string s] w fun e w' => e = .returned (.func (.func 126) #[] #[.pointer (some ⟨w.heap.size, 0, none⟩)]) ∧ w' = w.alloc (.cells #[.string s] 9) := by
  go_enter Tryz.func84, Tryz.ntmps84
  go_wp2_with fail
  go_ret
  exact ⟨rfl, rfl⟩
set_option maxRecDepth 100000 in
theorem compile_any (v : Value) (w : World) (hv : ∃ a n c, v = .slice a n c) : Calls Tryz.prog 247 #[v] w fun e w' => e = .returned (.pointer (some ⟨w.heap.size, 0, none⟩)) ∧ w' = w.alloc (.cells #[v, .map none] 229) := by
  obtain ⟨a, n, c, rfl⟩ := hv
  go_enter Tryz.func247, Tryz.ntmps247
  go_wp2_with fail
  go_ret
  exact ⟨rfl, rfl⟩

end Go.Proofs.YtlolomodcbkblaaGreatDoor.Nd
