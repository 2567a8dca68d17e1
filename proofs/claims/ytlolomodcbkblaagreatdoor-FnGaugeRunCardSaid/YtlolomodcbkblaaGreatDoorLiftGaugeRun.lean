/- FnGaugeRun: the call's contract lifted to the row (each argument read, the law walked). -/
import Derived.Test.YtlolomodcbkblaaGreatDoorRows
import Derived.Test.YtlolomodcbkblaaGreatDoorGaugeRun
import Derived.Test.YtlolomodcbkblaaGreatDoorNwi
import Derived.WalkKit
import Derived.ProofKit
import Derived.OpenShut
import Derived.ShutString
import Derived.Laws.Cover2
import Derived.Carry
import Derived.ChangeOld
import Derived.Below
import Derived.Deep.Slices
import Derived.JoinedCond
import Derived.Test.YtlolomodcbkblaaGreatDoorCards
import Derived.Test.YtlolomodcbkblaaGreatDoorTie
import Derived.LaidMore
import Derived.Stop.Joined
import Derived.SevenTiedAt
import Derived.Deep.DeepHandedRow
import Derived.Deep.DeepWitnessRowRef
import Derived.Lib.LaidTab
namespace Go.Proofs.YtlolomodcbkblaaGreatDoor.rowGaugeRun
open Go.ChangeShapes Go.WideShapes Go.ChangeAt Go.RowKit Go.Deep
open Go.ChangeMaps (open_string shut_string)
set_option linter.unusedVariables false
set_option linter.unusedSimpArgs false

theorem own : ownKnob Tryz.prog.godebug = none := by kernel_rfl
theorem laidOut : laidOutB Tryz.prog = true := by kernel_rfl

set_option maxRecDepth 100000 in
theorem reads (os : Os) {H : Type} (enc : TypeId × Value → H) : ∃ places, DataW.whole enc Tryz.prog ((Nd.laidWorld os).forCall (fun _ _ => 0) ⟨#[], #[.slice none 0 0], []⟩).memory Tryz.f3.params.toList Rows.fnGaugeRunSpec.vars false (#[.slice none 0 0] : Array Value).toList 8 = some ([.nil], [], places) :=
  ⟨[], by kernel_rfl⟩
set_option maxHeartbeats 4000000 in
set_option maxRecDepth 100000 in
theorem lifted (os : Os) (started : os.Started) (H : Type) (enc : TypeId × Value → H) (F : Stop.Interp) :
    ReturnsInHanded {} Tryz.checked os 3 .any ((OpenSpec.ofChange Rows.fnGaugeRunSpec).preRow enc Tryz.prog Tryz.f3 Rows.fnGaugeRunRow.domain false Rows.fnGaugeRunRow.laid) (((OpenSpec.ofChange Rows.fnGaugeRunSpec).at F).post enc Tryz.prog Tryz.f3 false true false false) := by
  obtain ⟨places, hx⟩ := reads os enc
  refine returnsInHanded_of_row (C := Tryz.checked) (s := OpenSpec.ofChange Rows.fnGaugeRunSpec) own started (by kernel_rfl) Tryz.func3
    (witness_row_atRef (enc := enc) (C := Tryz.checked) false (Nd.laidWorld os) #[.slice none 0 0] rfl (by kernel_rfl) (by kernel_rfl) (by kernel_rfl)
      (OpenSpec.preRow_of_cond 8 hx (by kernel_rfl) (fun k hk => by cases hk) (by kernel_rfl) (Nd.laid_met os _))) ?_
  intro W base args ds gs before hval0 hW _ hk0 _ hL _ _
  have hval : ∀ (j : Nat) t v, Tryz.f3.params[j]? = some t → args[j]? = some v → Value.okWide Tryz.prog W .any base t v := hval0
  have hW' := hW
  obtain ⟨p, q, hA0, hV, rfl, hfz, hnd⟩ := hW
  have hA : DataW.TrodAll enc Tryz.prog W 0 (fun _ => true) true Tryz.f3.params.toList args.toList ds p := hA0
  rw [Tryz.params3] at hA hval
  obtain ⟨v0, vs0, d0, ds0, p0, q0, hargs, rfl, rfl, h0, r0⟩ := trodAll_cons hA
  obtain ⟨rfl, rfl, rfl⟩ := trodAll_nil r0
  obtain rfl : args = #[v0] := by cases args; simp_all
  obtain ⟨rfl, rfl⟩ := trodVars_none hV
  have k0 := h0
  have lt0 : ∀ x ∈ p0, x.block < W.heap.size := by obtain ⟨m, hm⟩ := k0; exact DataW.trod_lt m _ _ _ hm
  have R0 := GaugeRun.read0 (hval 0 22 v0 rfl rfl) h0
  clear hA0 hval0
  try simp only [List.append_nil] at hW'
  refine (GaugeRun.law_any v0 W R0 (Nd.glob_of hL)).mono fun e W' ⟨he, bel⟩ => ?_
  subst he
  exact ⟨_, rfl, _, _, _, [], _, [], hW', trodAll_mk1 (shut_bool Tryz.underlying4 _), (trodAll_cons_mk (Below.trod laidOut (by kernel_rfl) (of_decide_eq_true (by kernel_rfl)) k0 bel lt0) trodAll_mk0), rfl, bel.frame _, fun h => by cases h⟩

end Go.Proofs.YtlolomodcbkblaaGreatDoor.rowGaugeRun
