/- strings.Builder's writes and String, over plain lists of bytes. -/
import Derived.Test.YtfcpapbokefdmaaGreatDoorBld
import Derived.Shelf.Strings.Builder1
import Derived.Shelf.Strings.BuilderK
set_option linter.unusedVariables false
namespace Go.Proofs.YtfcpapbokefdmaaGreatDoor.Bld
open Go.RowKit

def ren : Go.Shelf.Ren := ⟨fun | 169 => 101 | n => n, fun | 70 => 202 | 9 => 9 | 0 => 0 | 72 => 205 | 37 => 203 | 127 => 253 | 3 => 3 | 5 => 5 | n => n, fun | n => n⟩
theorem lays : Go.Proofs.Lays.n169 Tryz.prog ren := {
  mixed := by kernel_rfl
  f169 := Tryz.func101.trans (congrArg some (by kernel_rfl))
  t0 := Tryz.underlying0
  a0 := Tryz.isAgg0
  z0 := Tryz.sizeOf0
  v0 := Tryz.zeroValue0
  t3 := Tryz.underlying3
  a3 := Tryz.isAgg3
  z3 := Tryz.sizeOf3
  v3 := Tryz.zeroValue3
  t9 := Tryz.underlying9
  a9 := Tryz.isAgg9
  z9 := Tryz.sizeOf9
  v9 := Tryz.zeroValue9
  t37 := Tryz.underlying203
  a37 := Tryz.isAgg203
  z37 := Tryz.sizeOf203
  v37 := Tryz.zeroValue203
  t70 := Tryz.underlying202
  a70 := Tryz.isAgg202
  z70 := Tryz.sizeOf202
  v70 := Tryz.zeroValue202
  t72 := Tryz.underlying205
  a72 := Tryz.isAgg205
  z72 := Tryz.sizeOf205
  v72 := Tryz.zeroValue205
  t127 := Tryz.underlying253
  a127 := Tryz.isAgg253
  z127 := Tryz.sizeOf253
  v127 := Tryz.zeroValue253 }
theorem extra : Builder.Extra Tryz.prog ren := {
  sizeBuilder := by kernel_rfl
  liesBuilder := by kernel_rfl
  t5 := Tryz.underlying5
  a5 := Tryz.isAgg5
  z5 := Tryz.sizeOf5
  v5 := Tryz.zeroValue5
  infoByte := by kernel_rfl
  cellsByte := by kernel_rfl
  sizeByte := by kernel_rfl
  neB5 := by decide }

/-- a builder of the call's own (block b, its buffer from block B on) that holds the bytes l -/
def IsB (B b : Nat) (l : List UInt8) (w : World) : Prop := Lib.IsBuilder 205 5 B b (Lib.byteCells l) w

theorem string_any (B b : Nat) (l : List UInt8) (w : World) (h : IsB B b l w) (hBw : B ≤ w.heap.size) :
    Calls Tryz.prog 101 #[.pointer (some ⟨b, 0, none⟩)] w fun e w' => e = .returned (.string ⟨l.toArray⟩) ∧ Below B w w' := Any.Builder_String_any lays extra B b l w h hBw

theorem write_any (B b : Nat) (l : List UInt8) (s : ByteArray) (w : World) (h : IsB B b l w) (hlen : l.length + s.size ≤ 140737488355328) (hBw : B ≤ w.heap.size) :
    Calls Tryz.prog 100 #[.pointer (some ⟨b, 0, none⟩), .string s] w fun e w' => e = .returned (.tuple #[.int .i64 s.size, .nilIface]) ∧ IsB B b (l ++ s.data.toList) w' ∧ Below B w w' := by
  refine (writeString_any B b _ s w h (by rw [Lib.byteCells_length]; exact hlen) hBw).mono ?_
  rintro e w' ⟨rfl, h1, h2⟩
  exact ⟨rfl, Or.inr (by rw [Lib.byteCells_append]; exact h1), h2⟩

end Go.Proofs.YtfcpapbokefdmaaGreatDoor.Bld
