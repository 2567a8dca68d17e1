/- Contracts of the library's functions, laid by the shelf's own tool for this program: path_Dir_rules, path_Base. -/
import Derived.Shelf.Path.Small
import Derived.Shelf.Path.CleanRules
import Derived.Test.YtkmfedmiaannfaaProg
namespace Go.Proofs.Ytkmfedmiaannfaa.Sh
open Go.Shelf Go.Proofs
def laysPa25_ren : Go.Shelf.Ren := ⟨fun | 25 => 73 | 45 => 92 | n => n, fun | 9 => 9 | 4 => 4 | 3 => 3 | 5 => 5 | n => n, fun | n => n⟩
theorem laysPa25 : Go.Proofs.Lays.p25 Try.prog laysPa25_ren := {
  mixed := by kernel_rfl
  f25 := Try.func73.trans (congrArg some (by kernel_rfl))
  f45 := Try.func92.trans (congrArg some (by kernel_rfl))
  t3 := Try.underlying3
  a3 := Try.isAgg3
  z3 := Try.sizeOf3
  v3 := Try.zeroValue3
  t4 := Try.underlying4
  a4 := Try.isAgg4
  z4 := Try.sizeOf4
  v4 := Try.zeroValue4
  t5 := Try.underlying5
  a5 := Try.isAgg5
  z5 := Try.sizeOf5
  v5 := Try.zeroValue5
  t9 := Try.underlying9
  a9 := Try.isAgg9
  z9 := Try.sizeOf9
  v9 := Try.zeroValue9 }
open Go.RowKit Go.Lib in
theorem path_Base (s : ByteArray) (w : World) (hs : s.size ≤ 9223372036854775807) :
    Calls Try.prog 73 #[.string s] w fun e w' => e = .returned (.string ⟨(Pa.base s.data.toList).toArray⟩) ∧ w' = w := Any.path_Base laysPa25 s w hs
def laysPah27_ren : Go.Shelf.Ren := ⟨fun | 27 => 72 | 29 => 90 | 30 => 91 | 45 => 92 | 46 => 108 | 47 => 109 | 48 => 110 | n => n, fun | 9 => 9 | 24 => 128 | 5 => 5 | 3 => 3 | 4 => 4 | 42 => 181 | 0 => 0 | 48 => 191 | 30 => 160 | n => n, fun | n => n⟩
theorem laysPah27 : Go.Proofs.Lays.ph27 Try.prog laysPah27_ren := {
  mixed := by kernel_rfl
  f27 := Try.func72.trans (congrArg some (by kernel_rfl))
  f29 := Try.func90.trans (congrArg some (by kernel_rfl))
  f30 := Try.func91.trans (congrArg some (by kernel_rfl))
  f45 := Try.func92.trans (congrArg some (by kernel_rfl))
  f46 := Try.func108.trans (congrArg some (by kernel_rfl))
  f47 := Try.func109.trans (congrArg some (by kernel_rfl))
  f48 := Try.func110.trans (congrArg some (by kernel_rfl))
  t0 := Try.underlying0
  a0 := Try.isAgg0
  z0 := Try.sizeOf0
  v0 := Try.zeroValue0
  t3 := Try.underlying3
  a3 := Try.isAgg3
  z3 := Try.sizeOf3
  v3 := Try.zeroValue3
  t4 := Try.underlying4
  a4 := Try.isAgg4
  z4 := Try.sizeOf4
  v4 := Try.zeroValue4
  t5 := Try.underlying5
  a5 := Try.isAgg5
  z5 := Try.sizeOf5
  v5 := Try.zeroValue5
  t9 := Try.underlying9
  a9 := Try.isAgg9
  z9 := Try.sizeOf9
  v9 := Try.zeroValue9
  t24 := Try.underlying128
  a24 := Try.isAgg128
  z24 := Try.sizeOf128
  v24 := Try.zeroValue128
  t30 := Try.underlying160
  a30 := Try.isAgg160
  z30 := Try.sizeOf160
  v30 := Try.zeroValue160
  t42 := Try.underlying181
  a42 := Try.isAgg181
  z42 := Try.sizeOf181
  v42 := Try.zeroValue181
  t48 := Try.underlying191
  a48 := Try.isAgg191
  z48 := Try.sizeOf191
  v48 := Try.zeroValue191
  info5 := by kernel_rfl }
open Go.RowKit Go.Lib in
theorem path_Dir_rules (s : ByteArray) (w : World) (hbig : s.size ≤ 281474976710656) :
    Calls Try.prog 72 #[.string s] w fun e w' => e = .returned (.string ⟨(Pa.cleanEls (Pa.split s.data.toList).1).toArray⟩) ∧ Below w.heap.size w w' := Any.path_Dir_rules laysPah27 s w hbig
end Go.Proofs.Ytkmfedmiaannfaa.Sh
