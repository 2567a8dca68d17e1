/- strings.Builder's String, over plain lists of bytes (where the program has no Grow). -/
import Derived.Test.YtkmfedmiaannfaaDoorProg
import Derived.Lib.Builder
import Derived.WalkKit
import Derived.Shelf.Strings.Builder1
import Derived.Shelf.Strings.BuilderK
set_option linter.unusedVariables false
namespace Go.Proofs.YtkmfedmiaannfaaDoor.Bld
open Go.RowKit

def ren : Go.Shelf.Ren := ⟨fun | 169 => 24 | n => n, fun | 70 => 65 | 9 => 9 | 0 => 0 | 72 => 68 | 37 => 66 | 127 => 78 | 3 => 3 | 5 => 5 | n => n, fun | n => n⟩
theorem lays : Go.Proofs.Lays.n169 Tryd.prog ren := {
  mixed := by kernel_rfl
  f169 := Tryd.func24.trans (congrArg some (by kernel_rfl))
  t0 := Tryd.underlying0
  a0 := Tryd.isAgg0
  z0 := Tryd.sizeOf0
  v0 := Tryd.zeroValue0
  t3 := Tryd.underlying3
  a3 := Tryd.isAgg3
  z3 := Tryd.sizeOf3
  v3 := Tryd.zeroValue3
  t9 := Tryd.underlying9
  a9 := Tryd.isAgg9
  z9 := Tryd.sizeOf9
  v9 := Tryd.zeroValue9
  t37 := Tryd.underlying66
  a37 := Tryd.isAgg66
  z37 := Tryd.sizeOf66
  v37 := Tryd.zeroValue66
  t70 := Tryd.underlying65
  a70 := Tryd.isAgg65
  z70 := Tryd.sizeOf65
  v70 := Tryd.zeroValue65
  t72 := Tryd.underlying68
  a72 := Tryd.isAgg68
  z72 := Tryd.sizeOf68
  v72 := Tryd.zeroValue68
  t127 := Tryd.underlying78
  a127 := Tryd.isAgg78
  z127 := Tryd.sizeOf78
  v127 := Tryd.zeroValue78 }
theorem extra : Builder.Extra Tryd.prog ren := {
  sizeBuilder := by kernel_rfl
  liesBuilder := by kernel_rfl
  t5 := Tryd.underlying5
  a5 := Tryd.isAgg5
  z5 := Tryd.sizeOf5
  v5 := Tryd.zeroValue5
  infoByte := by kernel_rfl
  cellsByte := by kernel_rfl
  sizeByte := by kernel_rfl
  neB5 := by decide }

/-- a builder of the call's own (block b, its buffer from block B on) that holds the bytes l -/
def IsB (B b : Nat) (l : List UInt8) (w : World) : Prop := Lib.IsBuilder 68 5 B b (Lib.byteCells l) w

theorem string_any (B b : Nat) (l : List UInt8) (w : World) (h : IsB B b l w) (hBw : B ≤ w.heap.size) :
    Calls Tryd.prog 24 #[.pointer (some ⟨b, 0, none⟩)] w fun e w' => e = .returned (.string ⟨l.toArray⟩) ∧ Below B w w' := Any.Builder_String_any lays extra B b l w h hBw

theorem isB_zero {B b : Nat} {w : World} (hB : B ≤ b) (h : w.heap[b]? = some (.cells #[.pointer none, .slice none 0 0] 68 (0, 0))) : IsB B b [] w :=
  Or.inl ⟨hB, .slice none 0 0, h, World.ownsRow_nil _ _ _ _, by simp [Value.ownBlock]⟩

end Go.Proofs.YtkmfedmiaannfaaDoor.Bld
