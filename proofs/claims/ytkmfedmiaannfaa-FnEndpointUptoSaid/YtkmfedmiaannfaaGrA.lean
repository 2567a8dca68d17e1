/- graphAwake: it answers true. -/
import Derived.Test.YtkmfedmiaannfaaSanitized
set_option linter.unusedVariables false
set_option linter.unusedSimpArgs false
namespace Go.Proofs.Ytkmfedmiaannfaa.GrA
open Go.RowKit San SanitizedRight

set_option maxHeartbeats 1000000 in
set_option maxRecDepth 100000 in
theorem door_any (s : ByteArray) (w : World) (hs : s.size ≤ 35184372088832) :
    Calls Try.prog 81 #[.string s] w fun e w' => e = .returned (.string ⟨(san s).toArray⟩) ∧ Below w.heap.size w w' := by
  go_enter Try.func81, Try.ntmps81
  go_wp2_with fail
  refine (write_any w.heap.size w.heap.size s _ (Lib.IsBuilderF.of (Lib.fresh_isBuilder 167 5 w)) (Nat.le_refl _) (by simp) hs).mono ?_
  rintro e w1 ⟨rfl, h1, b1⟩
  have b0 : Below w.heap.size w w1 := ((Below.refl _ w).alloc (Nat.le_refl _) _).trans b1
  go_wp2_with fail
  refine (Bld.stringK_any w.heap.size w.heap.size (san s) w1 h1 b0.size).mono ?_
  rintro e w2 ⟨rfl, b2⟩
  go_wp2_with fail
  go_ret
  exact ⟨rfl, b0.trans b2⟩

set_option maxHeartbeats 1000000 in
set_option maxRecDepth 100000 in
theorem impl_any (s : ByteArray) (w : World) (hs : s.size ≤ 35184372088832) :
    Calls Try.prog 57 #[.string s] w fun e w' => e = .returned (.string ⟨(san s).toArray⟩) ∧ Below w.heap.size w w' := by
  go_enter Try.func57, Try.ntmps57
  go_wp2_with fail
  refine (door_any s w hs).mono ?_
  rintro e w1 ⟨rfl, b1⟩
  go_wp2_with fail
  go_ret
  exact ⟨rfl, b1⟩

theorem san_known : san ⟨#[97, 32, 98, 36, 99]⟩ = [97, 46, 98, 95, 99] := by decide +kernel

set_option maxHeartbeats 1000000 in
set_option maxRecDepth 100000 in
theorem awake_any (w : World) :
    Calls Try.prog 29 #[] w fun e w' => e = .returned (.bool true) ∧ Below w.heap.size w w' := by
  go_enter Try.func29, Try.ntmps29
  go_wp2_with fail
  refine (impl_any _ w (by decide)).mono ?_
  rintro e w1 ⟨rfl, b1⟩
  rw [san_known]
  go_wp2_with fail
  go_ret
  exact ⟨rfl, b1⟩

end Go.Proofs.Ytkmfedmiaannfaa.GrA
