/- FnAcceptRoads, where what it reads holds together at most 1048576 values and letters: the law returns true, and each argument reads behind the call as it read before. -/
import Derived.Test.YtkmfedmiaannfaaRows
import Derived.Test.YtkmfedmiaannfaaAcceptRoads
import Derived.WalkKit
import Derived.ProofKit
import Derived.OpenShut
import Derived.ShutString
import Derived.Laws.Cover2
import Derived.Carry
import Derived.ChangeOld
import Derived.Below
import Derived.Deep.Slices
import Derived.JoinedCond
namespace Go.Proofs.Ytkmfedmiaannfaa.rowAcceptRoadsUpto
open Go.ChangeShapes Go.WideShapes Go.ChangeAt Go.RowKit Go.Deep
open Go.ChangeMaps (open_string shut_string)
set_option linter.unusedVariables false
set_option linter.unusedSimpArgs false

theorem own : ownKnob Try.prog.godebug = none := by kernel_rfl
theorem laidOut : laidOutB Try.prog = true := by kernel_rfl

set_option maxHeartbeats 1000000 in
set_option maxRecDepth 100000 in
theorem lifted (os : Os) (started : os.Started) (H : Type) (enc : TypeId × Value → H) (F : Stop.Interp) :
    ReturnsInHanded {} Try.checked os 3 .any ((Rows.OpenSpec.upto Rows.fnAcceptRoadsSpec).pre6 enc Try.prog Try.f3 Rows.fnAcceptRoadsUptoRow.domain false) (((Rows.OpenSpec.upto Rows.fnAcceptRoadsSpec).at F).post enc Try.prog Try.f3 false true false false) := by
  refine returnsInHanded_of_cond (C := Try.checked) (s := Rows.OpenSpec.upto Rows.fnAcceptRoadsSpec) (k := Rows.uptoSmall) rfl own started (by kernel_rfl) Try.func3
    (OpenSpec.witness (enc := enc) (C := Try.checked) (s := Rows.OpenSpec.upto Rows.fnAcceptRoadsSpec) (k := Rows.uptoSmall) rfl false ⟨#[], #[.slice none 0 0, .slice none 0 0], []⟩ 8 (by kernel_rfl) (by kernel_rfl) (by kernel_rfl)
      (x := ([.nil, .nil], [], [])) (by kernel_rfl) rfl (by kernel_rfl)) ?_
  intro W base args ds gs before hval0 hW _ hk _
  have hval : ∀ (j : Nat) t v, Try.f3.params[j]? = some t → args[j]? = some v → Value.okWide Try.prog W .any base t v := hval0
  have hW' := hW
  obtain ⟨p, q, hA0, hV, rfl, hfz, hnd⟩ := hW
  have hA : DataW.TrodAll enc Try.prog W 0 (fun _ => true) true Try.f3.params.toList args.toList ds p := hA0
  rw [Try.params3] at hA hval
  obtain ⟨v0, vs0, d0, ds0, p0, q0, hargs, rfl, rfl, h0, r0⟩ := trodAll_cons hA
  obtain ⟨v1, vs1, d1, ds1, p1, q1, rfl, rfl, rfl, h1, r1⟩ := trodAll_cons r0
  obtain ⟨rfl, rfl, rfl⟩ := trodAll_nil r1
  obtain rfl : args = #[v0, v1] := by cases args; simp_all
  obtain ⟨rfl, rfl⟩ := trodVars_none hV
  simp only [List.append_nil] at hk
  have hkk : Rows.uptoBulkAll [d0, d1] ≤ 1048576 := of_decide_eq_true hk
  simp only [Rows.uptoBulkAll] at hkk
  have le0 : Rows.uptoBulk d0 ≤ 1048576 := by omega
  have le1 : Rows.uptoBulk d1 ≤ 1048576 := by omega
  clear hk hkk
  have k0 := h0
  have lt0 : ∀ x ∈ p0, x.block < W.heap.size := by obtain ⟨m, hm⟩ := k0; exact DataW.trod_lt m _ _ _ hm
  have R0 := AcceptRoads.read0 (hval 0 22 v0 rfl rfl) h0 le0
  have k1 := h1
  have lt1 : ∀ x ∈ p1, x.block < W.heap.size := by obtain ⟨m, hm⟩ := k1; exact DataW.trod_lt m _ _ _ hm
  have R1 := AcceptRoads.read1 (hval 1 22 v1 rfl rfl) h1 le1
  clear hA0 hval0
  try simp only [List.append_nil] at hW'
  refine (AcceptRoads.law_any v0 v1 W R0 R1).mono fun e W' ⟨he, bel⟩ => ?_
  subst he
  exact ⟨_, rfl, _, _, _, [], _, [], hW', trodAll_mk1 (shut_bool Try.underlying4 _), (trodAll_cons_mk (Below.trod laidOut (by kernel_rfl) (of_decide_eq_true (by kernel_rfl)) k0 bel lt0) (trodAll_cons_mk (Below.trod laidOut (by kernel_rfl) (of_decide_eq_true (by kernel_rfl)) k1 bel lt1) trodAll_mk0)), rfl, bel.frame _, fun h => by cases h⟩

theorem over : Rows.fnAcceptRoadsUptoRow.holds Try.pinned (Rows.OpenSpec.upto Rows.fnAcceptRoadsSpec) :=
  OpenClaim.holds_of_cond 3 Try.f3 rfl rfl rfl rfl rfl rfl rfl ⟨rfl, rfl, rfl, rfl, rfl⟩ rfl rfl rfl rfl rfl (by kernel_rfl) Try.func3 (by kernel_rfl)
    (of_decide_eq_true (by kernel_rfl)) (by unfold Func.isWrapper; first | (rw [if_pos (by decide +kernel)]; kernel_rfl) | (rw [if_neg (by decide +kernel)]; exact ⟨rfl, rfl⟩))
    (fun os started H enc _ F => lifted os started H enc F)

theorem proved : Rows.FnAcceptRoadsUptoSaid := over
#print axioms proved
end Go.Proofs.Ytkmfedmiaannfaa.rowAcceptRoadsUpto
