/- FnConstNative: the call's contract lifted to the row (each argument read, the law walked). -/
import Derived.Test.YtlolomodcbkblaaGreatDoorRows
import Derived.Test.YtlolomodcbkblaaGreatDoorConstNative
import Derived.Test.YtlolomodcbkblaaGreatDoorNwi
import Derived.WalkKit
import Derived.ProofKit
import Derived.OpenShut
import Derived.ShutString
import Derived.Laws.Cover2
import Derived.Carry
import Derived.ChangeOld
import Derived.Below
import Derived.Deep.Slices
import Derived.JoinedCond
import Derived.Test.YtlolomodcbkblaaGreatDoorCards
import Derived.Test.YtlolomodcbkblaaGreatDoorTie
import Derived.LaidMore
import Derived.Stop.Joined
import Derived.SevenTiedAt
import Derived.Deep.DeepHandedRow
import Derived.Deep.DeepWitnessRowRef
import Derived.Lib.LaidTab
namespace Go.Proofs.YtlolomodcbkblaaGreatDoor.rowConstNativeUpto
open Go.ChangeShapes Go.WideShapes Go.ChangeAt Go.RowKit Go.Deep
open Go.ChangeMaps (open_string shut_string)
set_option linter.unusedVariables false
set_option linter.unusedSimpArgs false

theorem own : ownKnob Tryz.prog.godebug = none := by kernel_rfl
theorem laidOut : laidOutB Tryz.prog = true := by kernel_rfl

set_option maxRecDepth 100000 in
theorem reads (os : Os) {H : Type} (enc : TypeId × Value → H) : ∃ places, DataW.whole enc Tryz.prog ((Nd.laidWorld os).forCall (fun _ _ => 0) ⟨#[], #[.agg #[.string ByteArray.empty, .string ByteArray.empty, .string ByteArray.empty, .slice none 0 0, .slice none 0 0], .int .u64 0, .float .f64 0, .slice none 0 0, .slice none 0 0, .int .u64 0, .int .i32 0, .float .f64 0], []⟩).memory Tryz.f5.params.toList Rows.fnConstNativeSpec.vars false (#[.agg #[.string ByteArray.empty, .string ByteArray.empty, .string ByteArray.empty, .slice none 0 0, .slice none 0 0], .int .u64 0, .float .f64 0, .slice none 0 0, .slice none 0 0, .int .u64 0, .int .i32 0, .float .f64 0] : Array Value).toList 8 = some ([.agg [.lit (.string []), .lit (.string []), .lit (.string []), .nil, .nil], .lit (.int .u64 0), .lit (.float .f64 0), .nil, .nil, .lit (.int .u64 0), .lit (.int .i32 0), .lit (.float .f64 0)], [], places) :=
  ⟨[], by kernel_rfl⟩
set_option maxHeartbeats 4000000 in
set_option maxRecDepth 100000 in
theorem lifted (os : Os) (started : os.Started) (H : Type) (enc : TypeId × Value → H) (F : Stop.Interp) :
    ReturnsInHanded {} Tryz.checked os 5 .any ((Rows.OpenSpec.upto Rows.fnConstNativeSpec).preRow enc Tryz.prog Tryz.f5 Rows.fnConstNativeUptoRow.domain false Rows.fnConstNativeUptoRow.laid) (((Rows.OpenSpec.upto Rows.fnConstNativeSpec).at F).post enc Tryz.prog Tryz.f5 false true false false) := by
  obtain ⟨places, hx⟩ := reads os enc
  refine returnsInHanded_of_row (C := Tryz.checked) (s := Rows.OpenSpec.upto Rows.fnConstNativeSpec) own started (by kernel_rfl) Tryz.func5
    (witness_row_atRef (enc := enc) (C := Tryz.checked) false (Nd.laidWorld os) #[.agg #[.string ByteArray.empty, .string ByteArray.empty, .string ByteArray.empty, .slice none 0 0, .slice none 0 0], .int .u64 0, .float .f64 0, .slice none 0 0, .slice none 0 0, .int .u64 0, .int .i32 0, .float .f64 0] rfl (by kernel_rfl) (by kernel_rfl) (by kernel_rfl)
      (OpenSpec.preRow_of_cond 8 hx (by kernel_rfl) (fun k hk => by cases hk; kernel_rfl) (by kernel_rfl) (Nd.laid_met os _))) ?_
  intro W base args ds gs before hval0 hW _ hk0 _ hL _ _
  have hk : Rows.uptoSmall H (ds ++ gs) = true := hk0 _ rfl
  have hval : ∀ (j : Nat) t v, Tryz.f5.params[j]? = some t → args[j]? = some v → Value.okWide Tryz.prog W .any base t v := hval0
  have hW' := hW
  obtain ⟨p, q, hA0, hV, rfl, hfz, hnd⟩ := hW
  have hA : DataW.TrodAll enc Tryz.prog W 0 (fun _ => true) true Tryz.f5.params.toList args.toList ds p := hA0
  rw [Tryz.params5] at hA hval
  obtain ⟨v0, vs0, d0, ds0, p0, q0, hargs, rfl, rfl, h0, r0⟩ := trodAll_cons hA
  obtain ⟨v1, vs1, d1, ds1, p1, q1, rfl, rfl, rfl, h1, r1⟩ := trodAll_cons r0
  obtain ⟨v2, vs2, d2, ds2, p2, q2, rfl, rfl, rfl, h2, r2⟩ := trodAll_cons r1
  obtain ⟨v3, vs3, d3, ds3, p3, q3, rfl, rfl, rfl, h3, r3⟩ := trodAll_cons r2
  obtain ⟨v4, vs4, d4, ds4, p4, q4, rfl, rfl, rfl, h4, r4⟩ := trodAll_cons r3
  obtain ⟨v5, vs5, d5, ds5, p5, q5, rfl, rfl, rfl, h5, r5⟩ := trodAll_cons r4
  obtain ⟨v6, vs6, d6, ds6, p6, q6, rfl, rfl, rfl, h6, r6⟩ := trodAll_cons r5
  obtain ⟨v7, vs7, d7, ds7, p7, q7, rfl, rfl, rfl, h7, r7⟩ := trodAll_cons r6
  obtain ⟨rfl, rfl, rfl⟩ := trodAll_nil r7
  obtain rfl : args = #[v0, v1, v2, v3, v4, v5, v6, v7] := by cases args; simp_all
  obtain ⟨rfl, rfl⟩ := trodVars_none hV
  simp only [List.append_nil] at hk
  have hkk : Rows.uptoBulkAll [d0, d1, d2, d3, d4, d5, d6, d7] ≤ 1048576 := of_decide_eq_true hk
  simp only [Rows.uptoBulkAll] at hkk
  have le0 : Rows.uptoBulk d0 ≤ 1048576 := by omega
  have le1 : Rows.uptoBulk d1 ≤ 1048576 := by omega
  have le2 : Rows.uptoBulk d2 ≤ 1048576 := by omega
  have le3 : Rows.uptoBulk d3 ≤ 1048576 := by omega
  have le4 : Rows.uptoBulk d4 ≤ 1048576 := by omega
  have le5 : Rows.uptoBulk d5 ≤ 1048576 := by omega
  have le6 : Rows.uptoBulk d6 ≤ 1048576 := by omega
  have le7 : Rows.uptoBulk d7 ≤ 1048576 := by omega
  clear hk hkk hk0
  have k0 := h0
  have lt0 : ∀ x ∈ p0, x.block < W.heap.size := by obtain ⟨m, hm⟩ := k0; exact DataW.trod_lt m _ _ _ hm
  have R0 := ConstNative.read0 (hval 0 66 v0 rfl rfl) h0 le0
  obtain ⟨a1, rfl, rfl, rfl, w1⟩ := open_int Tryz.underlying31 (hval 1 31 v1 rfl rfl) h1
  obtain ⟨a2, rfl, rfl, rfl, w2⟩ := open_float Tryz.underlying24 (hval 2 24 v2 rfl rfl) h2
  have k3 := h3
  have lt3 : ∀ x ∈ p3, x.block < W.heap.size := by obtain ⟨m, hm⟩ := k3; exact DataW.trod_lt m _ _ _ hm
  have R3 := ConstNative.read3 (hval 3 67 v3 rfl rfl) h3 le3
  have k4 := h4
  have lt4 : ∀ x ∈ p4, x.block < W.heap.size := by obtain ⟨m, hm⟩ := k4; exact DataW.trod_lt m _ _ _ hm
  have R4 := ConstNative.read4 (hval 4 67 v4 rfl rfl) h4 le4
  obtain ⟨a5, rfl, rfl, rfl, w5⟩ := open_int Tryz.underlying31 (hval 5 31 v5 rfl rfl) h5
  obtain ⟨a6, rfl, rfl, rfl, w6⟩ := open_int Tryz.underlying21 (hval 6 21 v6 rfl rfl) h6
  obtain ⟨a7, rfl, rfl, rfl, w7⟩ := open_float Tryz.underlying24 (hval 7 24 v7 rfl rfl) h7
  clear hA0 hval0
  try simp only [List.append_nil] at hW'
  refine (ConstNative.law_any v0 a1 a2 v3 v4 a5 a6 a7 W R0 w1 (by simpa [Lit.wf] using w2) R3 R4 w5 w6 (by simpa [Lit.wf] using w7) (Nd.glob_of hL)).mono fun e W' ⟨he, bel⟩ => ?_
  subst he
  exact ⟨_, rfl, _, _, _, [], _, [], hW', trodAll_mk1 (shut_bool Tryz.underlying4 _), (trodAll_cons_mk (Below.trod laidOut (by kernel_rfl) (of_decide_eq_true (by kernel_rfl)) k0 bel lt0) (trodAll_cons_mk (shut_int Tryz.underlying31 w1) (trodAll_cons_mk (shut_float Tryz.underlying24 w2) (trodAll_cons_mk (Below.trod laidOut (by kernel_rfl) (of_decide_eq_true (by kernel_rfl)) k3 bel lt3) (trodAll_cons_mk (Below.trod laidOut (by kernel_rfl) (of_decide_eq_true (by kernel_rfl)) k4 bel lt4) (trodAll_cons_mk (shut_int Tryz.underlying31 w5) (trodAll_cons_mk (shut_int Tryz.underlying21 w6) (trodAll_cons_mk (shut_float Tryz.underlying24 w7) trodAll_mk0)))))))), rfl, bel.frame _, fun h => by cases h⟩

end Go.Proofs.YtlolomodcbkblaaGreatDoor.rowConstNativeUpto
