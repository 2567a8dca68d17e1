/- Contracts of the library's functions, laid by the shelf's own tool for this program: strconv_Quote, strings_Join. -/
import Derived.Shelf.Strings.Builder1
import Derived.Shelf.Strings.Builder2
import Derived.Shelf.Strings.OnBuilder
import Derived.Shelf.Small.Utf8
import Derived.Shelf.Small.Bits
import Derived.Shelf.Strings.BuilderF
import Derived.Shelf.Strings.BuilderK
import Derived.Shelf.Utf8.AppendRune
import Derived.Shelf.Strconv.Bsearch
import Derived.Shelf.Strconv.IsPrint
import Derived.Shelf.Strconv.IsPrint16
import Derived.Shelf.Strconv.IsPrint32
import Derived.Shelf.Strconv.Escaped
import Derived.Shelf.Strconv.Quoted
import Derived.Shelf.Strconv.Quote
import Derived.Shelf.Strings.Builder2Cap
import Derived.Shelf.Strconv.Itoa0
import Derived.Shelf.Sort.Plain
import Derived.Shelf.GgSortFunc.Insertion
import Derived.Shelf.GgSortFunc.Tiny
import Derived.Shelf.GgSortFunc.Compose
import Derived.Shelf.GgSortMore.Stable
import Derived.Shelf.GgSortMore.Iface
import Derived.Shelf.GgSortMore.IfaceD
import Derived.Shelf.GgSortMore.IfacePart
import Derived.Shelf.GgSortMore.IfacePdq
import Derived.Shelf.GgSortMore.SortSort
import Derived.Shelf.Strings.Prefix
import Derived.Shelf.Unicode.Decode
import Derived.Shelf.Unicode.DecodeSlow
import Derived.Shelf.Unicode.DecodeAny
import Derived.Shelf.Slices.In.SortNone
import Derived.Shelf.Slices.In.SortNone2
import Derived.Shelf.SlSortFunc.Xorshift
import Derived.Shelf.SlSortIface.SiftDown
import Derived.Shelf.SlSortIface.HeapSort
import Derived.Shelf.SlSortIface.PartialInsertion
import Derived.Test.YtfcpapbokefdmaaGreatDoorProg
namespace Go.Proofs.YtfcpapbokefdmaaGreatDoor.Sh
open Go.Shelf Go.Proofs
def lays156_ren : Go.Shelf.Ren := ⟨fun | 156 => 81 | 165 => 99 | 166 => 100 | 169 => 101 | 240 => 115 | 241 => 116 | 276 => 134 | 277 => 135 | n => n, fun | 31 => 22 | 9 => 9 | 3 => 3 | 4 => 4 | 0 => 0 | 20 => 20 | 72 => 205 | 76 => 207 | 70 => 202 | 37 => 203 | 75 => 94 | 127 => 253 | 164 => 281 | 5 => 5 | 80 => 111 | n => n, fun | n => n⟩
theorem lays156 : Go.Proofs.Lays.n156 Tryz.prog lays156_ren := {
  mixed := by kernel_rfl
  f156 := Tryz.func81.trans (congrArg some (by kernel_rfl))
  f165 := Tryz.func99.trans (congrArg some (by kernel_rfl))
  f166 := Tryz.func100.trans (congrArg some (by kernel_rfl))
  f169 := Tryz.func101.trans (congrArg some (by kernel_rfl))
  f240 := Tryz.func115.trans (congrArg some (by kernel_rfl))
  f241 := Tryz.func116.trans (congrArg some (by kernel_rfl))
  f276 := Tryz.func134.trans (congrArg some (by kernel_rfl))
  f277 := Tryz.func135.trans (congrArg some (by kernel_rfl))
  t0 := Tryz.underlying0
  a0 := Tryz.isAgg0
  z0 := Tryz.sizeOf0
  v0 := Tryz.zeroValue0
  t3 := Tryz.underlying3
  a3 := Tryz.isAgg3
  z3 := Tryz.sizeOf3
  v3 := Tryz.zeroValue3
  t4 := Tryz.underlying4
  a4 := Tryz.isAgg4
  z4 := Tryz.sizeOf4
  v4 := Tryz.zeroValue4
  t9 := Tryz.underlying9
  a9 := Tryz.isAgg9
  z9 := Tryz.sizeOf9
  v9 := Tryz.zeroValue9
  t20 := Tryz.underlying20
  a20 := Tryz.isAgg20
  z20 := Tryz.sizeOf20
  v20 := Tryz.zeroValue20
  t31 := Tryz.underlying22
  a31 := Tryz.isAgg22
  z31 := Tryz.sizeOf22
  v31 := Tryz.zeroValue22
  t37 := Tryz.underlying203
  a37 := Tryz.isAgg203
  z37 := Tryz.sizeOf203
  v37 := Tryz.zeroValue203
  t70 := Tryz.underlying202
  a70 := Tryz.isAgg202
  z70 := Tryz.sizeOf202
  v70 := Tryz.zeroValue202
  t72 := Tryz.underlying205
  a72 := Tryz.isAgg205
  z72 := Tryz.sizeOf205
  v72 := Tryz.zeroValue205
  t75 := Tryz.underlying94
  a75 := Tryz.isAgg94
  z75 := Tryz.sizeOf94
  v75 := Tryz.zeroValue94
  t76 := Tryz.underlying207
  a76 := Tryz.isAgg207
  z76 := Tryz.sizeOf207
  v76 := Tryz.zeroValue207
  t127 := Tryz.underlying253
  a127 := Tryz.isAgg253
  z127 := Tryz.sizeOf253
  v127 := Tryz.zeroValue253
  t164 := Tryz.underlying281
  a164 := Tryz.isAgg281
  z164 := Tryz.sizeOf281
  v164 := Tryz.zeroValue281 }
theorem Builder_Extra_156 : Builder.Extra Tryz.prog lays156_ren := {
  sizeBuilder := by kernel_rfl
  liesBuilder := by kernel_rfl
  t5 := Tryz.underlying5
  a5 := Tryz.isAgg5
  z5 := Tryz.sizeOf5
  v5 := Tryz.zeroValue5
  infoByte := by kernel_rfl
  cellsByte := by kernel_rfl
  sizeByte := by kernel_rfl
  neB5 := by decide }
open Go.RowKit in
theorem strings_Join (bk o c : Nat) (xs : List ByteArray) (sep : ByteArray) (w : World) (hcells : ∀ (j : Nat) x, xs[j]? = some x → w.cell? ⟨bk, o + j, none⟩ = some (.string x)) (hbk : bk < w.heap.size) (hN : xs.length ≤ 140737488355328) (hcap : xs.length ≤ c) (hlen : (Lib.join (xs.map (·.data.toList)) sep.data.toList).length ≤ 140737488355328) :
    Calls Tryz.prog 81 #[.slice (some ⟨bk, o, none⟩) xs.length c, .string sep] w fun e w' => e = .returned (.string ⟨(Lib.join (xs.map (·.data.toList)) sep.data.toList).toArray⟩) ∧ Below w.heap.size w w' := Any.strings_Join lays156 Builder_Extra_156 bk o c xs sep w hcells hbk hN hcap hlen
def lays177_ren : Go.Shelf.Ren := ⟨fun | 177 => 80 | 250 => 107 | 289 => 124 | 197 => 149 | 323 => 150 | 260 => 160 | 339 => 161 | 340 => 162 | 242 => 163 | 119 => 164 | 345 => 179 | 346 => 180 | 278 => 181 | n => n, fun | 9 => 9 | 5 => 5 | 4 => 4 | 3 => 3 | 37 => 203 | 21 => 21 | 105 => 296 | 46 => 265 | 119 => 261 | 0 => 0 | 139 => 264 | 138 => 263 | 49 => 327 | 234 => 328 | 131 => 294 | 51 => 229 | 236 => 330 | n => n, fun | 3 => 3 | 4 => 4 | 20 => 6 | 21 => 7 | 22 => 8 | 23 => 9 | 24 => 10 | n => n⟩
theorem lays177 : Go.Proofs.Lays.n177 Tryz.prog lays177_ren := {
  mixed := by kernel_rfl
  f119 := Tryz.func164.trans (congrArg some (by kernel_rfl))
  f177 := Tryz.func80.trans (congrArg some (by kernel_rfl))
  f197 := Tryz.func149.trans (congrArg some (by kernel_rfl))
  f242 := Tryz.func163.trans (congrArg some (by kernel_rfl))
  f250 := Tryz.func107.trans (congrArg some (by kernel_rfl))
  f260 := Tryz.func160.trans (congrArg some (by kernel_rfl))
  f278 := Tryz.func181.trans (congrArg some (by kernel_rfl))
  f289 := Tryz.func124.trans (congrArg some (by kernel_rfl))
  f323 := Tryz.func150.trans (congrArg some (by kernel_rfl))
  f339 := Tryz.func161.trans (congrArg some (by kernel_rfl))
  f340 := Tryz.func162.trans (congrArg some (by kernel_rfl))
  f345 := Tryz.func179.trans (congrArg some (by kernel_rfl))
  f346 := Tryz.func180.trans (congrArg some (by kernel_rfl))
  t0 := Tryz.underlying0
  a0 := Tryz.isAgg0
  z0 := Tryz.sizeOf0
  v0 := Tryz.zeroValue0
  t3 := Tryz.underlying3
  a3 := Tryz.isAgg3
  z3 := Tryz.sizeOf3
  v3 := Tryz.zeroValue3
  t4 := Tryz.underlying4
  a4 := Tryz.isAgg4
  z4 := Tryz.sizeOf4
  v4 := Tryz.zeroValue4
  t5 := Tryz.underlying5
  a5 := Tryz.isAgg5
  z5 := Tryz.sizeOf5
  v5 := Tryz.zeroValue5
  t9 := Tryz.underlying9
  a9 := Tryz.isAgg9
  z9 := Tryz.sizeOf9
  v9 := Tryz.zeroValue9
  t21 := Tryz.underlying21
  a21 := Tryz.isAgg21
  z21 := Tryz.sizeOf21
  v21 := Tryz.zeroValue21
  t37 := Tryz.underlying203
  a37 := Tryz.isAgg203
  z37 := Tryz.sizeOf203
  v37 := Tryz.zeroValue203
  t46 := Tryz.underlying265
  a46 := Tryz.isAgg265
  z46 := Tryz.sizeOf265
  v46 := Tryz.zeroValue265
  t49 := Tryz.underlying327
  a49 := Tryz.isAgg327
  z49 := Tryz.sizeOf327
  v49 := Tryz.zeroValue327
  t51 := Tryz.underlying229
  a51 := Tryz.isAgg229
  z51 := Tryz.sizeOf229
  v51 := Tryz.zeroValue229
  t105 := Tryz.underlying296
  a105 := Tryz.isAgg296
  z105 := Tryz.sizeOf296
  v105 := Tryz.zeroValue296
  t119 := Tryz.underlying261
  a119 := Tryz.isAgg261
  z119 := Tryz.sizeOf261
  t131 := Tryz.underlying294
  a131 := Tryz.isAgg294
  z131 := Tryz.sizeOf294
  v131 := Tryz.zeroValue294
  t138 := Tryz.underlying263
  a138 := Tryz.isAgg263
  z138 := Tryz.sizeOf263
  v138 := Tryz.zeroValue263
  t139 := Tryz.underlying264
  a139 := Tryz.isAgg264
  z139 := Tryz.sizeOf264
  v139 := Tryz.zeroValue264
  t234 := Tryz.underlying328
  a234 := Tryz.isAgg328
  z234 := Tryz.sizeOf328
  v234 := Tryz.zeroValue328
  t236 := Tryz.underlying330
  a236 := Tryz.isAgg330
  z236 := Tryz.sizeOf330
  v236 := Tryz.zeroValue330
  g3 := by kernel_rfl
  g4 := by kernel_rfl
  g20 := by kernel_rfl
  g21 := by kernel_rfl
  g22 := by kernel_rfl
  g23 := by kernel_rfl
  g24 := by kernel_rfl }
open Go.RowKit in
theorem strconv_Quote (T : Lib.PrintTabs) (s : ByteArray) (w : World) (hlen : 10 * s.size + 12 ≤ 140737488355328) (hT : Lib.PrintTabsAt 6 7 8 9 T w) (hU : Lib.Utf8Tabs 3 4 w) :
    Calls Tryz.prog 80 #[.string s] w fun e w' => e = .returned (.string (strOfNums (Lib.quoteZ T s))) ∧ Below w.heap.size w w' := Any.strconv_Quote lays177 (by kernel_rfl) T s w hlen hT hU
end Go.Proofs.YtfcpapbokefdmaaGreatDoor.Sh
