/- What the listed variables hold, with the four tables of strconv. -/
import Derived.Test.YtfcpapbokefdmaaGreatDoorTxm
import Derived.Test.YtfcpapbokefdmaaGreatDoorNgl
import Derived.PinnedBridge
import Derived.Lib.LaidPrint
set_option linter.unusedVariables false
set_option linter.unusedSimpArgs false
namespace Go.Proofs.YtfcpapbokefdmaaGreatDoor.Tx
open Go.RowKit Go.Joins Go.ChangeShapes Go.WideShapes Go.Deep Fp _root_.Go.Proofs.YtfcpapbokefdmaaGreatDoor.Nd

/-- the ten variables that the row of the descriptors' text lists -/
def laidT : List (String × DataW Unit) := [("unicode/utf8.acceptRanges", Rows.laid_unicode_utf8_acceptRanges), ("pub-dialplate/pub/clientgolang/prometheus.errInconsistentCardinality", Rows.laid_pub_dialplate_pub_clientgolang_prometheus_errInconsistentCardinality), ("pub-dialplate/pub/clientgolang/prometheus.separatorByteSlice", Rows.laid_pub_dialplate_pub_clientgolang_prometheus_separatorByteSlice), ("pub-dialplate/pub/clientgolang/prometheus.V2", Rows.laid_pub_dialplate_pub_clientgolang_prometheus_V2), ("strconv.isGraphic", Rows.laid_strconv_isGraphic), ("strconv.isNotPrint16", Rows.laid_strconv_isNotPrint16), ("strconv.isNotPrint32", Rows.laid_strconv_isNotPrint32), ("strconv.isPrint16", Rows.laid_strconv_isPrint16), ("strconv.isPrint32", Rows.laid_strconv_isPrint32), ("unicode/utf8.first", Rows.laid_unicode_utf8_first)]
set_option maxRecDepth 100000 in
theorem glob_of {W : World} (h : laidMetH Tryz.prog laidT W) : GlobQ W := by
  rw [_root_.Go.MakeChecks.laidMetH_plain Tryz.prog laidT W (by kernel_rfl)] at h
  have r1 : Lib.VarReads Tryz.prog W "strconv.isPrint16" Pinned.isPrint16 := Lib.laidMet.reads h (by unfold laidT; simp [Rows.laid_strconv_isPrint16])
  have r2 : Lib.VarReads Tryz.prog W "strconv.isNotPrint16" Pinned.isNotPrint16 := Lib.laidMet.reads h (by unfold laidT; simp [Rows.laid_strconv_isNotPrint16])
  have r3 : Lib.VarReads Tryz.prog W "strconv.isPrint32" Pinned.isPrint32 := Lib.laidMet.reads h (by unfold laidT; simp [Rows.laid_strconv_isPrint32])
  have r4 : Lib.VarReads Tryz.prog W "strconv.isNotPrint32" Pinned.isNotPrint32 := Lib.laidMet.reads h (by unfold laidT; simp [Rows.laid_strconv_isNotPrint32])
  rw [Pinned.isPrint16_eq] at r1
  rw [Pinned.isNotPrint16_eq] at r2
  rw [Pinned.isPrint32_eq] at r3
  rw [Pinned.isNotPrint32_eq] at r4
  have c16 : Tryz.prog.cellsOf 327 = 1 := by kernel_rfl
  have c32 : Tryz.prog.cellsOf 229 = 1 := by kernel_rfl
  refine ⟨⟨tabs_of (Lib.laidMet.reads h (by unfold laidT; simp)) (Lib.laidMet.reads h (by unfold laidT; simp)), sep_of (Lib.laidMet.reads h (by unfold laidT; simp))⟩, Lib.goPrintTabs, ?_⟩
  exact ⟨Lib.tabSlice_of_reads (t := 328) (by kernel_rfl) (by kernel_rfl) Tryz.underlying328 Tryz.underlying327 c16 (by decide) r1,
    Lib.tabSlice_of_reads (t := 328) (by kernel_rfl) (by kernel_rfl) Tryz.underlying328 Tryz.underlying327 c16 (by decide) r2,
    Lib.tabSlice_of_reads (t := 330) (by kernel_rfl) (by kernel_rfl) Tryz.underlying330 Tryz.underlying229 c32 (by decide) r3,
    Lib.tabSlice_of_reads (t := 328) (by kernel_rfl) (by kernel_rfl) Tryz.underlying328 Tryz.underlying327 c16 (by decide) r4,
    by decide, by decide, by decide⟩

end Go.Proofs.YtfcpapbokefdmaaGreatDoor.Tx
