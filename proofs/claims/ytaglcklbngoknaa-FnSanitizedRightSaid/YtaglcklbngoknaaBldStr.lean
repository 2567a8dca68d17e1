/- strings.Builder's writes and String, over plain lists of bytes. -/
import Derived.Test.YtaglcklbngoknaaBld
import Derived.Shelf.Strings.Builder1
import Derived.Shelf.Strings.BuilderK
set_option linter.unusedVariables false
namespace Go.Proofs.Ytaglcklbngoknaa.Bld
open Go.RowKit

def ren : Go.Shelf.Ren := ⟨fun | 169 => 47 | n => n, fun | 70 => 96 | 9 => 9 | 0 => 0 | 72 => 99 | 37 => 97 | 127 => 115 | 3 => 3 | 5 => 5 | n => n, fun | n => n⟩
theorem lays : Go.Proofs.Lays.n169 Try.prog ren := {
  mixed := by kernel_rfl
  f169 := Try.func47.trans (congrArg some (by kernel_rfl))
  t0 := Try.underlying0
  a0 := Try.isAgg0
  z0 := Try.sizeOf0
  v0 := Try.zeroValue0
  t3 := Try.underlying3
  a3 := Try.isAgg3
  z3 := Try.sizeOf3
  v3 := Try.zeroValue3
  t9 := Try.underlying9
  a9 := Try.isAgg9
  z9 := Try.sizeOf9
  v9 := Try.zeroValue9
  t37 := Try.underlying97
  a37 := Try.isAgg97
  z37 := Try.sizeOf97
  v37 := Try.zeroValue97
  t70 := Try.underlying96
  a70 := Try.isAgg96
  z70 := Try.sizeOf96
  v70 := Try.zeroValue96
  t72 := Try.underlying99
  a72 := Try.isAgg99
  z72 := Try.sizeOf99
  v72 := Try.zeroValue99
  t127 := Try.underlying115
  a127 := Try.isAgg115
  z127 := Try.sizeOf115
  v127 := Try.zeroValue115 }
theorem extra : Builder.Extra Try.prog ren := {
  sizeBuilder := by kernel_rfl
  liesBuilder := by kernel_rfl
  t5 := Try.underlying5
  a5 := Try.isAgg5
  z5 := Try.sizeOf5
  v5 := Try.zeroValue5
  infoByte := by kernel_rfl
  cellsByte := by kernel_rfl
  sizeByte := by kernel_rfl
  neB5 := by decide }

/-- a builder of the call's own (block b, its buffer from block B on) that holds the bytes l -/
def IsB (B b : Nat) (l : List UInt8) (w : World) : Prop := Lib.IsBuilder 99 5 B b (Lib.byteCells l) w

theorem string_any (B b : Nat) (l : List UInt8) (w : World) (h : IsB B b l w) (hBw : B ≤ w.heap.size) :
    Calls Try.prog 47 #[.pointer (some ⟨b, 0, none⟩)] w fun e w' => e = .returned (.string ⟨l.toArray⟩) ∧ Below B w w' := Any.Builder_String_any lays extra B b l w h hBw

theorem write_any (B b : Nat) (l : List UInt8) (s : ByteArray) (w : World) (h : IsB B b l w) (hlen : l.length + s.size ≤ 140737488355328) (hBw : B ≤ w.heap.size) :
    Calls Try.prog 46 #[.pointer (some ⟨b, 0, none⟩), .string s] w fun e w' => e = .returned (.tuple #[.int .i64 s.size, .nilIface]) ∧ IsB B b (l ++ s.data.toList) w' ∧ Below B w w' := by
  refine (writeString_any B b _ s w h (by rw [Lib.byteCells_length]; exact hlen) hBw).mono ?_
  rintro e w' ⟨rfl, h1, h2⟩
  exact ⟨rfl, Or.inr (by rw [Lib.byteCells_append]; exact h1), h2⟩

end Go.Proofs.Ytaglcklbngoknaa.Bld
