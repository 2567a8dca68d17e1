/- FnGaugeRun: the closed facts of the row, each by the kernel apart. -/
import Derived.Test.YtlolomodcbkblaaGreatDoorRows
import Derived.JoinedOf
import Derived.KernelRfl
namespace Go.Proofs.YtlolomodcbkblaaGreatDoor.rowGaugeRun
set_option maxHeartbeats 40000000 in
set_option maxRecDepth 100000 in
theorem facts : joinedFacts Tryz.prog 3 Tryz.f3 Rows.fnGaugeRunSpec Rows.fnGaugeRunRow = true := by
  unfold joinedFacts
  simp only [Bool.and_eq_true]
  repeat' (refine And.intro ?_ ?_)
  all_goals as_aux_lemma => kernel_rfl
end Go.Proofs.YtlolomodcbkblaaGreatDoor.rowGaugeRun
