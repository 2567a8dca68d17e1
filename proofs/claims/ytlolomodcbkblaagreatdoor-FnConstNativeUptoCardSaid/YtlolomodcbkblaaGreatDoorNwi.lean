/- Descriptors: a world in which the five listed variables hold what their initialisers lay (for the rows' witness). -/
import Derived.Test.YtlolomodcbkblaaGreatDoorMg23
import Derived.Deep.DeepHandedRow
import Derived.Deep.DeepWitnessRowRef
import Derived.Lib.LaidTab
set_option linter.unusedVariables false
set_option linter.unusedSimpArgs false
namespace Go.Proofs.YtlolomodcbkblaaGreatDoor.Nd
open Go.RowKit Go.ChangeShapes Go.WideShapes Go.Deep

noncomputable def laidWorld (os : Os) : World :=
  let N := (World.settled Tryz.prog os).heap.size
  let w0 := World.holding Tryz.prog os ⟨#[.cells #[.string ⟨#[105, 110, 99, 111, 110, 115, 105, 115, 116, 101, 110, 116, 32, 108, 97, 98, 101, 108, 32, 99, 97, 114, 100, 105, 110, 97, 108, 105, 116, 121]⟩] 328, .cells #[.int .u8 255] 5], #[], []⟩
  let put (h : Array Obj) (g : Nat) (cs : Array Value) : Array Obj := h.modify g fun
    | .cells _ t frozen => .cells cs t frozen
    | o => o
  let h1 := put w0.heap 3 (Lib.firstTab.map fun z => Value.int .u8 z).toArray
  let h2 := put h1 4 ((List.range 16).flatMap fun i => [Value.int .u8 (Lib.accLo i), Value.int .u8 (Lib.accHi i)]).toArray
  let h3 := put h2 2 #[.iface 326 (.pointer (some ⟨N, 0, none⟩))]
  let h4 := put h3 1 #[.slice (some ⟨N + 1, 0, none⟩) 1 1]
  { w0 with heap := h4 }
set_option maxRecDepth 100000 in
theorem laid_met (os : Os) (args : Array Value) : laidMet Tryz.prog laidD ((laidWorld os).forCall (fun _ _ => 0) ⟨#[], args, []⟩).memory :=
  laidMet_of_run' 8 (by kernel_rfl) (by kernel_rfl)

end Go.Proofs.YtlolomodcbkblaaGreatDoor.Nd
