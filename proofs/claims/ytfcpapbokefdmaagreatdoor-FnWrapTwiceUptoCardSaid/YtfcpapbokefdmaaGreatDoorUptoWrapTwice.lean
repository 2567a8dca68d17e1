/- FnWrapTwice, where what it reads holds together at most 1048576 values and letters, and the listed variables hold what their initialisers lay: the law returns true, and each argument reads behind the call as it read before. -/
import Derived.Test.YtfcpapbokefdmaaGreatDoorRows
import Derived.Test.YtfcpapbokefdmaaGreatDoorWrapTwice
import Derived.Test.YtfcpapbokefdmaaGreatDoorNwi
import Derived.WalkKit
import Derived.ProofKit
import Derived.OpenShut
import Derived.ShutString
import Derived.Laws.Cover2
import Derived.Carry
import Derived.ChangeOld
import Derived.Below
import Derived.Deep.Slices
import Derived.JoinedCond
import Derived.Test.YtfcpapbokefdmaaGreatDoorCards
import Derived.Test.YtfcpapbokefdmaaGreatDoorTie
import Derived.LaidMore
import Derived.Stop.Joined
import Derived.SevenTiedAt
import Derived.Deep.DeepHandedRow
import Derived.Deep.DeepWitnessRowRef
import Derived.Lib.LaidTab
namespace Go.Proofs.YtfcpapbokefdmaaGreatDoor.rowWrapTwiceUpto
open Go.ChangeShapes Go.WideShapes Go.ChangeAt Go.RowKit Go.Deep
open Go.ChangeMaps (open_string shut_string)
set_option linter.unusedVariables false
set_option linter.unusedSimpArgs false

theorem own : ownKnob Tryz.prog.godebug = none := by kernel_rfl
theorem laidOut : laidOutB Tryz.prog = true := by kernel_rfl

set_option maxRecDepth 100000 in
theorem reads (os : Os) {H : Type} (enc : TypeId × Value → H) : ∃ places, DataW.whole enc Tryz.prog ((Nd.laidWorld os).forCall (fun _ _ => 0) ⟨#[], #[.agg #[.string ByteArray.empty, .string ByteArray.empty, .string ByteArray.empty, .slice none 0 0, .slice none 0 0], .string ByteArray.empty, .string ByteArray.empty, .slice none 0 0, .slice none 0 0], []⟩).memory Tryz.f5.params.toList Rows.fnWrapTwiceSpec.vars false (#[.agg #[.string ByteArray.empty, .string ByteArray.empty, .string ByteArray.empty, .slice none 0 0, .slice none 0 0], .string ByteArray.empty, .string ByteArray.empty, .slice none 0 0, .slice none 0 0] : Array Value).toList 8 = some ([.agg [.lit (.string []), .lit (.string []), .lit (.string []), .nil, .nil], .lit (.string []), .lit (.string []), .nil, .nil], [], places) :=
  ⟨[], by kernel_rfl⟩
set_option maxHeartbeats 4000000 in
set_option maxRecDepth 100000 in
theorem lifted (os : Os) (started : os.Started) (H : Type) (enc : TypeId × Value → H) (F : Stop.Interp) :
    ReturnsInHanded {} Tryz.checked os 5 .any ((Rows.OpenSpec.upto Rows.fnWrapTwiceSpec).preRow enc Tryz.prog Tryz.f5 Rows.fnWrapTwiceUptoRow.domain false Rows.fnWrapTwiceUptoRow.laid) (((Rows.OpenSpec.upto Rows.fnWrapTwiceSpec).at F).post enc Tryz.prog Tryz.f5 false true false false) := by
  obtain ⟨places, hx⟩ := reads os enc
  refine returnsInHanded_of_row (C := Tryz.checked) (s := Rows.OpenSpec.upto Rows.fnWrapTwiceSpec) own started (by kernel_rfl) Tryz.func5
    (witness_row_atRef (enc := enc) (C := Tryz.checked) false (Nd.laidWorld os) #[.agg #[.string ByteArray.empty, .string ByteArray.empty, .string ByteArray.empty, .slice none 0 0, .slice none 0 0], .string ByteArray.empty, .string ByteArray.empty, .slice none 0 0, .slice none 0 0] rfl (by kernel_rfl) (by kernel_rfl) (by kernel_rfl)
      (OpenSpec.preRow_of_cond 8 hx (by kernel_rfl) (fun k hk => by cases hk; kernel_rfl) (by kernel_rfl) (Nd.laid_met os _))) ?_
  intro W base args ds gs before hval0 hW _ hk0 _ hL _ _
  have hk : Rows.uptoSmall H (ds ++ gs) = true := hk0 _ rfl
  have hval : ∀ (j : Nat) t v, Tryz.f5.params[j]? = some t → args[j]? = some v → Value.okWide Tryz.prog W .any base t v := hval0
  have hW' := hW
  obtain ⟨p, q, hA0, hV, rfl, hfz, hnd⟩ := hW
  have hA : DataW.TrodAll enc Tryz.prog W 0 (fun _ => true) true Tryz.f5.params.toList args.toList ds p := hA0
  rw [Tryz.params5] at hA hval
  obtain ⟨v0, vs0, d0, ds0, p0, q0, hargs, rfl, rfl, h0, r0⟩ := trodAll_cons hA
  obtain ⟨v1, vs1, d1, ds1, p1, q1, rfl, rfl, rfl, h1, r1⟩ := trodAll_cons r0
  obtain ⟨v2, vs2, d2, ds2, p2, q2, rfl, rfl, rfl, h2, r2⟩ := trodAll_cons r1
  obtain ⟨v3, vs3, d3, ds3, p3, q3, rfl, rfl, rfl, h3, r3⟩ := trodAll_cons r2
  obtain ⟨v4, vs4, d4, ds4, p4, q4, rfl, rfl, rfl, h4, r4⟩ := trodAll_cons r3
  obtain ⟨rfl, rfl, rfl⟩ := trodAll_nil r4
  obtain rfl : args = #[v0, v1, v2, v3, v4] := by cases args; simp_all
  obtain ⟨rfl, rfl⟩ := trodVars_none hV
  simp only [List.append_nil] at hk
  have hkk : Rows.uptoBulkAll [d0, d1, d2, d3, d4] ≤ 1048576 := of_decide_eq_true hk
  simp only [Rows.uptoBulkAll] at hkk
  have le0 : Rows.uptoBulk d0 ≤ 1048576 := by omega
  have le1 : Rows.uptoBulk d1 ≤ 1048576 := by omega
  have le2 : Rows.uptoBulk d2 ≤ 1048576 := by omega
  have le3 : Rows.uptoBulk d3 ≤ 1048576 := by omega
  have le4 : Rows.uptoBulk d4 ≤ 1048576 := by omega
  clear hk hk0
  have k0 := h0
  have lt0 : ∀ x ∈ p0, x.block < W.heap.size := by obtain ⟨m, hm⟩ := k0; exact DataW.trod_lt m _ _ _ hm
  have R0 := WrapTwice.read0 (hval 0 25 v0 rfl rfl) h0 le0
  obtain ⟨a1, rfl, rfl, rfl, w1⟩ := open_string Tryz.underlying9 (hval 1 9 v1 rfl rfl) h1
  obtain ⟨a2, rfl, rfl, rfl, w2⟩ := open_string Tryz.underlying9 (hval 2 9 v2 rfl rfl) h2
  have k3 := h3
  have lt3 : ∀ x ∈ p3, x.block < W.heap.size := by obtain ⟨m, hm⟩ := k3; exact DataW.trod_lt m _ _ _ hm
  have R3 := WrapTwice.read3 (hval 3 23 v3 rfl rfl) h3 le3
  have k4 := h4
  have lt4 : ∀ x ∈ p4, x.block < W.heap.size := by obtain ⟨m, hm⟩ := k4; exact DataW.trod_lt m _ _ _ hm
  have R4 := WrapTwice.read4 (hval 4 23 v4 rfl rfl) h4 le4
  clear hA0 hval0
  try simp only [List.append_nil] at hW'
  refine (WrapTwice.law_any v0 a1 a2 v3 v4 W (Rows.uptoBulk d0) (Rows.uptoBulk d3) (Rows.uptoBulk d4) R0 R3 R4 (by have e1 : a1.data.toList.length = a1.size := (by rw [Array.length_toList]; rfl); have e2 : a2.data.toList.length = a2.size := (by rw [Array.length_toList]; rfl); simp only [Rows.uptoBulk] at hkk; omega) (Nd.glob_of hL)).mono fun e W' ⟨he, bel⟩ => ?_
  subst he
  exact ⟨_, rfl, _, _, _, [], _, [], hW', trodAll_mk1 (shut_bool Tryz.underlying4 _), (trodAll_cons_mk (Below.trod laidOut (by kernel_rfl) (of_decide_eq_true (by kernel_rfl)) k0 bel lt0) (trodAll_cons_mk (shut_string Tryz.underlying9 w1) (trodAll_cons_mk (shut_string Tryz.underlying9 w2) (trodAll_cons_mk (Below.trod laidOut (by kernel_rfl) (of_decide_eq_true (by kernel_rfl)) k3 bel lt3) (trodAll_cons_mk (Below.trod laidOut (by kernel_rfl) (of_decide_eq_true (by kernel_rfl)) k4 bel lt4) trodAll_mk0))))), rfl, bel.frame _, fun h => by cases h⟩

theorem saidUpto : Rows.FnWrapTwiceUptoSaid :=
  OpenClaim.holds_of_cond 5 Tryz.f5 rfl rfl rfl rfl rfl rfl rfl ⟨rfl, rfl, rfl, rfl, rfl⟩ rfl rfl rfl rfl rfl (by kernel_rfl) Tryz.func5 (by kernel_rfl)
    (of_decide_eq_true (by kernel_rfl)) (by unfold Func.isWrapper; first | (rw [if_pos (by decide +kernel)]; kernel_rfl) | (rw [if_neg (by decide +kernel)]; exact ⟨rfl, rfl⟩))
    (fun os started H enc _ F => by rw [OpenClaim.pre_eq_preRow]; exact lifted os started H enc F)
theorem plain (f : FuncId) (fn : Func) (hf : Tryz.pinned.checked.prog.funcNamed "pub-dialplate/laws.FnWrapTwice" = some f) (hfn : Tryz.pinned.checked.prog.funcs[f]? = some fn) :
    false = Tryz.pinned.checked.prog.looks [] ∧ ∀ (j : Nat) t, fn.params[j]? = some t → Tryz.pinned.checked.prog.wantsStandIn t = false := by
  obtain rfl : f = 5 := Option.some.inj ((show Tryz.prog.funcNamed "pub-dialplate/laws.FnWrapTwice" = some 5 by kernel_rfl).symm.trans hf) |>.symm
  obtain rfl : fn = Tryz.f5 := (Option.some.inj (Tryz.func5.symm.trans hfn)).symm
  refine ⟨by kernel_rfl, fun j t ht => ?_⟩
  rw [Tryz.params5] at ht
  have hm : t ∈ [25, 9, 9, 23, 23] := by simpa using Array.mem_of_getElem? ht
  have hall : ([25, 9, 9, 23, 23].all fun u => !Tryz.prog.wantsStandIn u) = true := by kernel_rfl
  exact (show Tryz.prog.wantsStandIn t = false by simpa using List.all_eq_true.1 hall t hm)
theorem proved : Rows.FnWrapTwiceUptoCardSaid :=
  Claim7.holds_tied_plain_at .later [] _ _ _ _ saidUpto (fun _ h => by cases h) (by kernel_rfl) (fun _ h => by cases h) fnWrapTwiceUpto_row_tie rfl ⟨rfl, rfl⟩ (by kernel_rfl) rfl plain (by kernel_rfl)
#print axioms proved
end Go.Proofs.YtfcpapbokefdmaaGreatDoor.rowWrapTwiceUpto
