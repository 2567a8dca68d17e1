/- FnConstNative, where what it reads holds together at most 1048576 values and letters, and the listed variables hold what their initialisers lay: the law returns true, and each argument reads behind the call as it read before. -/
import Derived.Test.YtlolomodcbkblaaGreatDoorFactConstNative
import Derived.Test.YtlolomodcbkblaaGreatDoorRows
import Derived.Test.YtlolomodcbkblaaGreatDoorConstNative
import Derived.Test.YtlolomodcbkblaaGreatDoorNwi
import Derived.WalkKit
import Derived.ProofKit
import Derived.OpenShut
import Derived.ShutString
import Derived.Laws.Cover2
import Derived.Carry
import Derived.ChangeOld
import Derived.Below
import Derived.Deep.Slices
import Derived.JoinedCond
import Derived.Test.YtlolomodcbkblaaGreatDoorCards
import Derived.Test.YtlolomodcbkblaaGreatDoorTie
import Derived.LaidMore
import Derived.Stop.Joined
import Derived.SevenTiedAt
import Derived.Deep.DeepHandedRow
import Derived.Deep.DeepWitnessRowRef
import Derived.Lib.LaidTab
import Derived.Test.YtlolomodcbkblaaGreatDoorLiftConstNative
namespace Go.Proofs.YtlolomodcbkblaaGreatDoor.rowConstNativeUpto
open Go.ChangeShapes Go.WideShapes Go.ChangeAt Go.RowKit Go.Deep
open Go.ChangeMaps (open_string shut_string)
set_option linter.unusedVariables false
set_option linter.unusedSimpArgs false

set_option maxRecDepth 100000 in
theorem saidUpto : Rows.FnConstNativeUptoSaid :=
  OpenClaim.holds_of_cond 5 Tryz.f5 rfl rfl rfl rfl rfl rfl rfl ⟨rfl, rfl, rfl, rfl, rfl⟩ rfl rfl rfl rfl rfl (by kernel_rfl) Tryz.func5 facts
    (of_decide_eq_true (by kernel_rfl)) (by unfold Func.isWrapper; first | (rw [if_pos (by decide +kernel)]; kernel_rfl) | (rw [if_neg (by decide +kernel)]; exact ⟨rfl, rfl⟩))
    (fun os started H enc _ F => by rw [OpenClaim.pre_eq_preRow]; exact lifted os started H enc F)
theorem plain (f : FuncId) (fn : Func) (hf : Tryz.pinned.checked.prog.funcNamed "pub-dialplate/laws.FnConstNative" = some f) (hfn : Tryz.pinned.checked.prog.funcs[f]? = some fn) :
    true = Tryz.pinned.checked.prog.looks [] ∧ ∀ (j : Nat) t, fn.params[j]? = some t → Tryz.pinned.checked.prog.wantsStandIn t = false := by
  obtain rfl : f = 5 := Option.some.inj ((show Tryz.prog.funcNamed "pub-dialplate/laws.FnConstNative" = some 5 by kernel_rfl).symm.trans hf) |>.symm
  obtain rfl : fn = Tryz.f5 := (Option.some.inj (Tryz.func5.symm.trans hfn)).symm
  refine ⟨by kernel_rfl, fun j t ht => ?_⟩
  rw [Tryz.params5] at ht
  have hm : t ∈ [66, 31, 24, 67, 67, 31, 21, 24] := by simpa using Array.mem_of_getElem? ht
  have hall : ([66, 31, 24, 67, 67, 31, 21, 24].all fun u => !Tryz.prog.wantsStandIn u) = true := by kernel_rfl
  exact (show Tryz.prog.wantsStandIn t = false by simpa using List.all_eq_true.1 hall t hm)
theorem proved : Rows.FnConstNativeUptoCardSaid :=
  Claim7.holds_tied_plain_at .later [] _ _ _ _ saidUpto (fun _ h => by cases h) (by kernel_rfl) (fun _ h => by cases h) fnConstNativeUpto_row_tie rfl ⟨rfl, rfl⟩ (by kernel_rfl) rfl plain (by kernel_rfl)
#print axioms proved
end Go.Proofs.YtlolomodcbkblaaGreatDoor.rowConstNativeUpto
