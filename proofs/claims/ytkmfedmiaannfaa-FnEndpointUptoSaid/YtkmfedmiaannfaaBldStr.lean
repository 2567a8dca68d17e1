/- strings.Builder's writes and String, over plain lists of bytes. -/
import Derived.Test.YtkmfedmiaannfaaBld
import Derived.Shelf.Strings.Builder1
import Derived.Shelf.Strings.BuilderK
set_option linter.unusedVariables false
namespace Go.Proofs.Ytkmfedmiaannfaa.Bld
open Go.RowKit

def ren : Go.Shelf.Ren := ⟨fun | 169 => 99 | n => n, fun | 70 => 165 | 9 => 9 | 0 => 0 | 72 => 167 | 37 => 160 | 127 => 189 | 3 => 3 | 5 => 5 | n => n, fun | n => n⟩
theorem lays : Go.Proofs.Lays.n169 Try.prog ren := {
  mixed := by kernel_rfl
  f169 := Try.func99.trans (congrArg some (by kernel_rfl))
  t0 := Try.underlying0
  a0 := Try.isAgg0
  z0 := Try.sizeOf0
  v0 := Try.zeroValue0
  t3 := Try.underlying3
  a3 := Try.isAgg3
  z3 := Try.sizeOf3
  v3 := Try.zeroValue3
  t9 := Try.underlying9
  a9 := Try.isAgg9
  z9 := Try.sizeOf9
  v9 := Try.zeroValue9
  t37 := Try.underlying160
  a37 := Try.isAgg160
  z37 := Try.sizeOf160
  v37 := Try.zeroValue160
  t70 := Try.underlying165
  a70 := Try.isAgg165
  z70 := Try.sizeOf165
  v70 := Try.zeroValue165
  t72 := Try.underlying167
  a72 := Try.isAgg167
  z72 := Try.sizeOf167
  v72 := Try.zeroValue167
  t127 := Try.underlying189
  a127 := Try.isAgg189
  z127 := Try.sizeOf189
  v127 := Try.zeroValue189 }
theorem extra : Builder.Extra Try.prog ren := {
  sizeBuilder := by kernel_rfl
  liesBuilder := by kernel_rfl
  t5 := Try.underlying5
  a5 := Try.isAgg5
  z5 := Try.sizeOf5
  v5 := Try.zeroValue5
  infoByte := by kernel_rfl
  cellsByte := by kernel_rfl
  sizeByte := by kernel_rfl
  neB5 := by decide }

/-- a builder of the call's own (block b, its buffer from block B on) that holds the bytes l -/
def IsB (B b : Nat) (l : List UInt8) (w : World) : Prop := Lib.IsBuilder 167 5 B b (Lib.byteCells l) w

theorem string_any (B b : Nat) (l : List UInt8) (w : World) (h : IsB B b l w) (hBw : B ≤ w.heap.size) :
    Calls Try.prog 99 #[.pointer (some ⟨b, 0, none⟩)] w fun e w' => e = .returned (.string ⟨l.toArray⟩) ∧ Below B w w' := Any.Builder_String_any lays extra B b l w h hBw

theorem write_any (B b : Nat) (l : List UInt8) (s : ByteArray) (w : World) (h : IsB B b l w) (hlen : l.length + s.size ≤ 140737488355328) (hBw : B ≤ w.heap.size) :
    Calls Try.prog 102 #[.pointer (some ⟨b, 0, none⟩), .string s] w fun e w' => e = .returned (.tuple #[.int .i64 s.size, .nilIface]) ∧ IsB B b (l ++ s.data.toList) w' ∧ Below B w w' := by
  refine (writeString_any B b _ s w h (by rw [Lib.byteCells_length]; exact hlen) hBw).mono ?_
  rintro e w' ⟨rfl, h1, h2⟩
  exact ⟨rfl, Or.inr (by rw [Lib.byteCells_append]; exact h1), h2⟩

end Go.Proofs.Ytkmfedmiaannfaa.Bld
