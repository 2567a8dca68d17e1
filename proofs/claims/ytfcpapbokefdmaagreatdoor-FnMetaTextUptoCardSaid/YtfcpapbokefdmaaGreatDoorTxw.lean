/- A world in which the ten listed variables hold what their initialisers lay (for the witness of the row of the descriptors' text). -/
import Derived.Test.YtfcpapbokefdmaaGreatDoorTxg
import Derived.Deep.DeepHandedRow
import Derived.Deep.DeepWitnessRowRef
import Derived.Lib.LaidTab
import Derived.Lib.LaidIn
import Derived.Lib.LaidSlice
set_option linter.unusedVariables false
set_option linter.unusedSimpArgs false
namespace Go.Proofs.YtfcpapbokefdmaaGreatDoor.Tx
open Go.RowKit Go.ChangeShapes Go.WideShapes Go.Deep Go.Lib

noncomputable def laidWorld (os : Os) : World :=
  let N := (World.settled Tryz.prog os).heap.size
  let T := Lib.goPrintTabs
  let w0 := World.holding Tryz.prog os ⟨#[.cells #[.string ⟨#[105, 110, 99, 111, 110, 115, 105, 115, 116, 101, 110, 116, 32, 108, 97, 98, 101, 108, 32, 99, 97, 114, 100, 105, 110, 97, 108, 105, 116, 121]⟩] 239, .cells #[.int .u8 255] 5,
    .cells (intCellsOf .u16 Pinned.isGraphicZ) 327, .cells (intCellsOf .u16 T.n16) 327, .cells (intCellsOf .u16 T.n32) 327, .cells (intCellsOf .u16 T.p16) 327, .cells (intCellsOf .u32 T.p32) 229], #[], []⟩
  let put (h : Array Obj) (g : Nat) (cs : Array Value) : Array Obj := h.modify g fun
    | .cells _ t frozen => .cells cs t frozen
    | o => o
  let h1 := put w0.heap 3 (Lib.firstTab.map fun z => Value.int .u8 z).toArray
  let h2 := put h1 4 ((List.range 16).flatMap fun i => [Value.int .u8 (Lib.accLo i), Value.int .u8 (Lib.accHi i)]).toArray
  let h3 := put h2 1 #[.iface 237 (.pointer (some ⟨N, 0, none⟩))]
  let h4 := put h3 2 #[.slice (some ⟨N + 1, 0, none⟩) 1 1]
  let h5 := put h4 10 #[.slice (some ⟨N + 2, 0, none⟩) Pinned.isGraphicZ.length Pinned.isGraphicZ.length]
  let h6 := put h5 7 #[.slice (some ⟨N + 3, 0, none⟩) T.n16.length T.n16.length]
  let h7 := put h6 9 #[.slice (some ⟨N + 4, 0, none⟩) T.n32.length T.n32.length]
  let h8 := put h7 6 #[.slice (some ⟨N + 5, 0, none⟩) T.p16.length T.p16.length]
  let h9 := put h8 8 #[.slice (some ⟨N + 6, 0, none⟩) T.p32.length T.p32.length]
  { w0 with heap := h9 }
noncomputable abbrev N0 : Nat := (World.settled Tryz.prog default).heap.size
noncomputable abbrev mem (os : Os) (args : Array Value) : World := ((laidWorld os).forCall (fun _ _ => 0) ⟨#[], args, []⟩).memory

set_option maxRecDepth 1000000 in
theorem piece0 (os : Os) (args : Array Value) : LaidIn Tryz.prog (mem os args) [("unicode/utf8.acceptRanges", Rows.laid_unicode_utf8_acceptRanges), ("pub-dialplate/pub/clientgolang/prometheus.errInconsistentCardinality", Rows.laid_pub_dialplate_pub_clientgolang_prometheus_errInconsistentCardinality), ("pub-dialplate/pub/clientgolang/prometheus.separatorByteSlice", Rows.laid_pub_dialplate_pub_clientgolang_prometheus_separatorByteSlice), ("pub-dialplate/pub/clientgolang/prometheus.V2", Rows.laid_pub_dialplate_pub_clientgolang_prometheus_V2)]
    [0, 1, 2, 4, N0, N0 + 1] :=
  LaidIn.of_run _ 8 (by kernel_rfl) (by kernel_rfl) (by kernel_rfl) (by kernel_rfl)
set_option maxRecDepth 1000000 in
theorem piece1 (os : Os) (args : Array Value) : LaidIn Tryz.prog (mem os args) [("strconv.isGraphic", Lib.sliceData .u16 Pinned.isGraphicZ)] [10, N0 + 2] :=
  laidIn_slice (t := 328) (e := 327) (te := 327) Pinned.isGraphicZ (N0 + 2) (by kernel_rfl) (by kernel_rfl) (by kernel_rfl) (by kernel_rfl) (by kernel_rfl) (by kernel_rfl) (by kernel_rfl) (by kernel_rfl) (of_decide_eq_true (by kernel_rfl)) (of_decide_eq_true (by kernel_rfl))
set_option maxRecDepth 1000000 in
theorem piece2 (os : Os) (args : Array Value) : LaidIn Tryz.prog (mem os args) [("strconv.isNotPrint16", Lib.sliceData .u16 Lib.goPrintTabs.n16)] [7, N0 + 3] :=
  laidIn_slice (t := 328) (e := 327) (te := 327) Lib.goPrintTabs.n16 (N0 + 3) (by kernel_rfl) (by kernel_rfl) (by kernel_rfl) (by kernel_rfl) (by kernel_rfl) (by kernel_rfl) (by kernel_rfl) (by kernel_rfl) (of_decide_eq_true (by kernel_rfl)) (of_decide_eq_true (by kernel_rfl))
set_option maxRecDepth 1000000 in
theorem piece3 (os : Os) (args : Array Value) : LaidIn Tryz.prog (mem os args) [("strconv.isNotPrint32", Lib.sliceData .u16 Lib.goPrintTabs.n32)] [9, N0 + 4] :=
  laidIn_slice (t := 328) (e := 327) (te := 327) Lib.goPrintTabs.n32 (N0 + 4) (by kernel_rfl) (by kernel_rfl) (by kernel_rfl) (by kernel_rfl) (by kernel_rfl) (by kernel_rfl) (by kernel_rfl) (by kernel_rfl) (of_decide_eq_true (by kernel_rfl)) (of_decide_eq_true (by kernel_rfl))
set_option maxRecDepth 1000000 in
theorem piece4 (os : Os) (args : Array Value) : LaidIn Tryz.prog (mem os args) [("strconv.isPrint16", Lib.sliceData .u16 Lib.goPrintTabs.p16)] [6, N0 + 5] :=
  laidIn_slice (t := 328) (e := 327) (te := 327) Lib.goPrintTabs.p16 (N0 + 5) (by kernel_rfl) (by kernel_rfl) (by kernel_rfl) (by kernel_rfl) (by kernel_rfl) (by kernel_rfl) (by kernel_rfl) (by kernel_rfl) (of_decide_eq_true (by kernel_rfl)) (of_decide_eq_true (by kernel_rfl))
set_option maxRecDepth 1000000 in
theorem piece5 (os : Os) (args : Array Value) : LaidIn Tryz.prog (mem os args) [("strconv.isPrint32", Lib.sliceData .u32 Lib.goPrintTabs.p32)] [8, N0 + 6] :=
  laidIn_slice (t := 330) (e := 229) (te := 229) Lib.goPrintTabs.p32 (N0 + 6) (by kernel_rfl) (by kernel_rfl) (by kernel_rfl) (by kernel_rfl) (by kernel_rfl) (by kernel_rfl) (by kernel_rfl) (by kernel_rfl) (of_decide_eq_true (by kernel_rfl)) (of_decide_eq_true (by kernel_rfl))
set_option maxRecDepth 1000000 in
theorem piece6 (os : Os) (args : Array Value) : LaidIn Tryz.prog (mem os args) [("unicode/utf8.first", Rows.laid_unicode_utf8_first)] [3] :=
  LaidIn.of_run _ 8 (by kernel_rfl) (by kernel_rfl) (by kernel_rfl) (by kernel_rfl)
theorem graphic_eq : Lib.sliceData .u16 Pinned.isGraphicZ = Rows.laid_strconv_isGraphic := by kernel_rfl
theorem laid_met (os : Os) (args : Array Value) : laidMet Tryz.prog laidT ((laidWorld os).forCall (fun _ _ => 0) ⟨#[], args, []⟩).memory := by
  have p1 := piece1 os args
  have p2 := piece2 os args
  have p3 := piece3 os args
  have p4 := piece4 os args
  have p5 := piece5 os args
  rw [graphic_eq] at p1
  rw [← Pinned.isNotPrint16_eq] at p2
  rw [← Pinned.isNotPrint32_eq] at p3
  rw [← Pinned.isPrint16_eq] at p4
  rw [← Pinned.isPrint32_eq] at p5
  exact (((((((piece0 os args).append p1 (by kernel_rfl)).append p2 (by kernel_rfl)).append p3 (by kernel_rfl)).append p4 (by kernel_rfl)).append p5 (by kernel_rfl)).append (piece6 os args) (by kernel_rfl)).met

end Go.Proofs.YtfcpapbokefdmaaGreatDoor.Tx
