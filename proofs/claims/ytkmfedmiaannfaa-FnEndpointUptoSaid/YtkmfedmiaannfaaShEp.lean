/- Contracts of the library's functions, laid by the shelf's own tool for this program: path_Join_rules, strings_HasPrefix, strings_Join. -/
import Derived.Shelf.Strings.Builder1
import Derived.Shelf.Strings.Builder2
import Derived.Shelf.Strings.OnBuilder
import Derived.Shelf.Small.Bits
import Derived.Shelf.Strings.BuilderF
import Derived.Shelf.Strings.BuilderK
import Derived.Shelf.Strconv.Itoa0
import Derived.Shelf.Sort.Plain
import Derived.Shelf.Strings.Prefix
import Derived.Shelf.Slices.SearchI
import Derived.Shelf.Slices.In.SortNone
import Derived.Shelf.Slices.In.SortNone2
import Derived.Shelf.Path.Small
import Derived.Shelf.Path.LazyBuf
import Derived.Shelf.Path.CleanRel
import Derived.Shelf.Path.CleanAbs
import Derived.Shelf.Path.Clean
import Derived.Shelf.Path.Join
import Derived.Shelf.Path.JoinRules
import Derived.Test.YtkmfedmiaannfaaProg
namespace Go.Proofs.Ytkmfedmiaannfaa.Sh
open Go.Shelf Go.Proofs
def lays156_ren : Go.Shelf.Ren := ⟨fun | 156 => 85 | 165 => 101 | 166 => 102 | 169 => 99 | 240 => 114 | 241 => 115 | 276 => 119 | 277 => 120 | n => n, fun | 31 => 22 | 9 => 9 | 3 => 3 | 4 => 4 | 0 => 0 | 20 => 20 | 72 => 167 | 76 => 173 | 70 => 165 | 37 => 160 | 75 => 169 | 127 => 189 | 164 => 193 | 5 => 5 | 80 => 171 | n => n, fun | n => n⟩
theorem lays156 : Go.Proofs.Lays.n156 Try.prog lays156_ren := {
  mixed := by kernel_rfl
  f156 := Try.func85.trans (congrArg some (by kernel_rfl))
  f165 := Try.func101.trans (congrArg some (by kernel_rfl))
  f166 := Try.func102.trans (congrArg some (by kernel_rfl))
  f169 := Try.func99.trans (congrArg some (by kernel_rfl))
  f240 := Try.func114.trans (congrArg some (by kernel_rfl))
  f241 := Try.func115.trans (congrArg some (by kernel_rfl))
  f276 := Try.func119.trans (congrArg some (by kernel_rfl))
  f277 := Try.func120.trans (congrArg some (by kernel_rfl))
  t0 := Try.underlying0
  a0 := Try.isAgg0
  z0 := Try.sizeOf0
  v0 := Try.zeroValue0
  t3 := Try.underlying3
  a3 := Try.isAgg3
  z3 := Try.sizeOf3
  v3 := Try.zeroValue3
  t4 := Try.underlying4
  a4 := Try.isAgg4
  z4 := Try.sizeOf4
  v4 := Try.zeroValue4
  t9 := Try.underlying9
  a9 := Try.isAgg9
  z9 := Try.sizeOf9
  v9 := Try.zeroValue9
  t20 := Try.underlying20
  a20 := Try.isAgg20
  z20 := Try.sizeOf20
  v20 := Try.zeroValue20
  t31 := Try.underlying22
  a31 := Try.isAgg22
  z31 := Try.sizeOf22
  v31 := Try.zeroValue22
  t37 := Try.underlying160
  a37 := Try.isAgg160
  z37 := Try.sizeOf160
  v37 := Try.zeroValue160
  t70 := Try.underlying165
  a70 := Try.isAgg165
  z70 := Try.sizeOf165
  v70 := Try.zeroValue165
  t72 := Try.underlying167
  a72 := Try.isAgg167
  z72 := Try.sizeOf167
  v72 := Try.zeroValue167
  t75 := Try.underlying169
  a75 := Try.isAgg169
  z75 := Try.sizeOf169
  v75 := Try.zeroValue169
  t76 := Try.underlying173
  a76 := Try.isAgg173
  z76 := Try.sizeOf173
  v76 := Try.zeroValue173
  t127 := Try.underlying189
  a127 := Try.isAgg189
  z127 := Try.sizeOf189
  v127 := Try.zeroValue189
  t164 := Try.underlying193
  a164 := Try.isAgg193
  z164 := Try.sizeOf193
  v164 := Try.zeroValue193 }
theorem Builder_Extra_156 : Builder.Extra Try.prog lays156_ren := {
  sizeBuilder := by kernel_rfl
  liesBuilder := by kernel_rfl
  t5 := Try.underlying5
  a5 := Try.isAgg5
  z5 := Try.sizeOf5
  v5 := Try.zeroValue5
  infoByte := by kernel_rfl
  cellsByte := by kernel_rfl
  sizeByte := by kernel_rfl
  neB5 := by decide }
open Go.RowKit in
theorem strings_Join (bk o c : Nat) (xs : List ByteArray) (sep : ByteArray) (w : World) (hcells : ∀ (j : Nat) x, xs[j]? = some x → w.cell? ⟨bk, o + j, none⟩ = some (.string x)) (hbk : bk < w.heap.size) (hN : xs.length ≤ 140737488355328) (hcap : xs.length ≤ c) (hlen : (Lib.join (xs.map (·.data.toList)) sep.data.toList).length ≤ 140737488355328) :
    Calls Try.prog 85 #[.slice (some ⟨bk, o, none⟩) xs.length c, .string sep] w fun e w' => e = .returned (.string ⟨(Lib.join (xs.map (·.data.toList)) sep.data.toList).toArray⟩) ∧ Below w.heap.size w w' := Any.strings_Join lays156 Builder_Extra_156 bk o c xs sep w hcells hbk hN hcap hlen
def lays99_ren : Go.Shelf.Ren := ⟨fun | 99 => 69 | 206 => 88 | n => n, fun | 9 => 9 | 4 => 4 | 3 => 3 | n => n, fun | n => n⟩
theorem lays99 : Go.Proofs.Lays.n99 Try.prog lays99_ren := {
  mixed := by kernel_rfl
  f99 := Try.func69.trans (congrArg some (by kernel_rfl))
  f206 := Try.func88.trans (congrArg some (by kernel_rfl))
  t3 := Try.underlying3
  a3 := Try.isAgg3
  z3 := Try.sizeOf3
  v3 := Try.zeroValue3
  t4 := Try.underlying4
  a4 := Try.isAgg4
  z4 := Try.sizeOf4
  v4 := Try.zeroValue4
  t9 := Try.underlying9
  a9 := Try.isAgg9
  z9 := Try.sizeOf9
  v9 := Try.zeroValue9 }
open Go.RowKit Go.Lib in
theorem strings_HasPrefix (s p : ByteArray) (w : World) :
    Calls Try.prog 69 #[.string s, .string p] w fun e w' => e = .returned (.bool (Lib.hasPrefix s.data.toList p.data.toList)) ∧ w' = w := Any.strings_HasPrefix lays99 s p w
def laysPah31_ren : Go.Shelf.Ren := ⟨fun | 31 => 84 | 30 => 91 | 46 => 108 | 47 => 109 | 48 => 110 | n => n, fun | 26 => 22 | 9 => 9 | 3 => 3 | 0 => 0 | 4 => 4 | 30 => 160 | 5 => 5 | 42 => 181 | 48 => 191 | n => n, fun | n => n⟩
theorem laysPah31 : Go.Proofs.Lays.ph31 Try.prog laysPah31_ren := {
  mixed := by kernel_rfl
  f30 := Try.func91.trans (congrArg some (by kernel_rfl))
  f31 := Try.func84.trans (congrArg some (by kernel_rfl))
  f46 := Try.func108.trans (congrArg some (by kernel_rfl))
  f47 := Try.func109.trans (congrArg some (by kernel_rfl))
  f48 := Try.func110.trans (congrArg some (by kernel_rfl))
  t0 := Try.underlying0
  a0 := Try.isAgg0
  z0 := Try.sizeOf0
  v0 := Try.zeroValue0
  t3 := Try.underlying3
  a3 := Try.isAgg3
  z3 := Try.sizeOf3
  v3 := Try.zeroValue3
  t4 := Try.underlying4
  a4 := Try.isAgg4
  z4 := Try.sizeOf4
  v4 := Try.zeroValue4
  t5 := Try.underlying5
  a5 := Try.isAgg5
  z5 := Try.sizeOf5
  v5 := Try.zeroValue5
  t9 := Try.underlying9
  a9 := Try.isAgg9
  z9 := Try.sizeOf9
  v9 := Try.zeroValue9
  t26 := Try.underlying22
  a26 := Try.isAgg22
  z26 := Try.sizeOf22
  v26 := Try.zeroValue22
  t30 := Try.underlying160
  a30 := Try.isAgg160
  z30 := Try.sizeOf160
  v30 := Try.zeroValue160
  t42 := Try.underlying181
  a42 := Try.isAgg181
  z42 := Try.sizeOf181
  v42 := Try.zeroValue181
  t48 := Try.underlying191
  a48 := Try.isAgg191
  z48 := Try.sizeOf191
  v48 := Try.zeroValue191
  info5 := by kernel_rfl }
open Go.RowKit Go.Lib in
theorem path_Join_rules (bk o c : Nat) (xs : List ByteArray) (w : World) (hcells : ∀ (j : Nat) x, xs[j]? = some x → w.cell? ⟨bk, o + j, none⟩ = some (.string x)) (hbk : bk < w.heap.size) (hlen : Pa.lens (xs.map (·.data.toList)) + xs.length ≤ 281474976710656) :
    Calls Try.prog 84 #[.slice (some ⟨bk, o, none⟩) xs.length c] w fun e w' => e = .returned (.string ⟨(Pa.join (xs.map (·.data.toList))).toArray⟩) ∧ Below w.heap.size w w' := Any.path_Join_rules laysPah31 bk o c xs w hcells hbk hlen
end Go.Proofs.Ytkmfedmiaannfaa.Sh
