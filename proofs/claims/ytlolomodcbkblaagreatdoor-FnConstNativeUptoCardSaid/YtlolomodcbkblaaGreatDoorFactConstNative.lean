/- FnConstNative: the closed facts of the row, each by the kernel apart. -/
import Derived.Test.YtlolomodcbkblaaGreatDoorRows
import Derived.JoinedOf
import Derived.KernelRfl
namespace Go.Proofs.YtlolomodcbkblaaGreatDoor.rowConstNativeUpto
set_option maxHeartbeats 40000000 in
set_option maxRecDepth 100000 in
theorem facts : joinedFacts Tryz.prog 5 Tryz.f5 Rows.fnConstNativeSpec Rows.fnConstNativeUptoRow = true := by
  unfold joinedFacts
  simp only [Bool.and_eq_true]
  repeat' (refine And.intro ?_ ?_)
  all_goals as_aux_lemma => kernel_rfl
end Go.Proofs.YtlolomodcbkblaaGreatDoor.rowConstNativeUpto
