/-
  DERIVED. GIVEN WITH THE SEED: THE PROGRAM's TIES (one call each: nine closed facts by the kernel) AND EACH ROW's TIE, after the 31st guide's Derived/Test/Toyas{Tie, Card}.lean. No idea stands in it: it is a product of the set-up. Laid BY PROGRAM, IN A SANDBOX (cutbox-door.mjs). By AI agents, Wed Nov 11 2026. No macro, syntax, notation, axiom, sorry.
-/
import Derived.Test.YtfcpapbokefdmaaGreatDoorRows
import Derived.LaidByTextLater
import Derived.SevenTiedAt
import Derived.LaidSub
import Derived.LaidOnce
namespace Go.Proofs.YtfcpapbokefdmaaGreatDoor
open Go
set_option maxRecDepth 100000
theorem seatTie1 : Tryz.prog.laidByTextLater [("unicode/utf8.acceptRanges", Rows.laid_unicode_utf8_acceptRanges), ("pub-dialplate/pub/clientgolang/prometheus.errInconsistentCardinality", Rows.laid_pub_dialplate_pub_clientgolang_prometheus_errInconsistentCardinality), ("pub-dialplate/pub/clientgolang/prometheus.separatorByteSlice", Rows.laid_pub_dialplate_pub_clientgolang_prometheus_separatorByteSlice), ("pub-dialplate/pub/clientgolang/prometheus.V2", Rows.laid_pub_dialplate_pub_clientgolang_prometheus_V2)] [.data, .sentinel, .widerDeep, .wider] true :=
  Program.laidByTextLater_by_one 48 8 33 (by kernel_rfl) (by kernel_rfl) (by kernel_rfl) (by kernel_rfl) (by kernel_rfl) (by kernel_rfl) (fun _ _ => by kernel_rfl)
theorem pin_laid_unicode_utf8_first : Tryz.pinned.checked.prog.pinnedFits "unicode/utf8.first" = true := by kernel_rfl
theorem pin_laid_strconv_isGraphic : Tryz.pinned.checked.prog.pinnedFits "strconv.isGraphic" = true := by kernel_rfl
theorem pin_laid_strconv_isNotPrint16 : Tryz.pinned.checked.prog.pinnedFits "strconv.isNotPrint16" = true := by kernel_rfl
theorem pin_laid_strconv_isNotPrint32 : Tryz.pinned.checked.prog.pinnedFits "strconv.isNotPrint32" = true := by kernel_rfl
theorem pin_laid_strconv_isPrint16 : Tryz.pinned.checked.prog.pinnedFits "strconv.isPrint16" = true := by kernel_rfl
theorem pin_laid_strconv_isPrint32 : Tryz.pinned.checked.prog.pinnedFits "strconv.isPrint32" = true := by kernel_rfl
theorem noOwnUnsafe : Tryz.pinned.checked.prog.headLifts.contains "ownunsafe" = false := by kernel_rfl
theorem fits1 : Tryz.pinned.checked.prog.listedFits [("unicode/utf8.acceptRanges", Rows.laid_unicode_utf8_acceptRanges), ("pub-dialplate/pub/clientgolang/prometheus.errInconsistentCardinality", Rows.laid_pub_dialplate_pub_clientgolang_prometheus_errInconsistentCardinality), ("pub-dialplate/pub/clientgolang/prometheus.separatorByteSlice", Rows.laid_pub_dialplate_pub_clientgolang_prometheus_separatorByteSlice), ("pub-dialplate/pub/clientgolang/prometheus.V2", Rows.laid_pub_dialplate_pub_clientgolang_prometheus_V2), ("unicode/utf8.first", Rows.laid_unicode_utf8_first)] = true := by
  unfold Program.listedFits
  rw [noOwnUnsafe]
  kernel_rfl
theorem tie : Tryz.prog.laidByTextLater [("unicode/utf8.acceptRanges", Rows.laid_unicode_utf8_acceptRanges), ("pub-dialplate/pub/clientgolang/prometheus.errInconsistentCardinality", Rows.laid_pub_dialplate_pub_clientgolang_prometheus_errInconsistentCardinality), ("pub-dialplate/pub/clientgolang/prometheus.separatorByteSlice", Rows.laid_pub_dialplate_pub_clientgolang_prometheus_separatorByteSlice), ("pub-dialplate/pub/clientgolang/prometheus.V2", Rows.laid_pub_dialplate_pub_clientgolang_prometheus_V2)] [.data, .sentinel, .widerDeep, .wider] true :=
  Program.laidByTextLater.sub seatTie1 ["unicode/utf8.acceptRanges", "pub-dialplate/pub/clientgolang/prometheus.errInconsistentCardinality", "pub-dialplate/pub/clientgolang/prometheus.separatorByteSlice", "pub-dialplate/pub/clientgolang/prometheus.V2"] (by kernel_rfl) (by kernel_rfl)
theorem fnMetaSame_row_tie : Rows.fnMetaSameRow.laidByTextAt .later Tryz.pinned [.data, .sentinel, .widerDeep, .wider, .pinned] true :=
  OpenClaim.laidByTextAt_pinned rfl rfl tie rfl rfl rfl rfl (fun y hy _e => by
    simp only [Rows.fnMetaSameRow, List.zip_cons_cons, List.zip_nil_right, List.mem_cons, List.mem_nil_iff, or_false] at hy
    rcases hy with rfl | rfl | rfl | rfl | rfl
    · cases _e
    · cases _e
    · cases _e
    · cases _e
    · exact ⟨pin_laid_unicode_utf8_first, by kernel_rfl⟩) fits1
theorem fnLabelTurned_row_tie : Rows.fnLabelTurnedRow.laidByTextAt .later Tryz.pinned [.data, .sentinel, .widerDeep, .wider, .pinned] true :=
  OpenClaim.laidByTextAt_pinned rfl rfl tie rfl rfl rfl rfl (fun y hy _e => by
    simp only [Rows.fnLabelTurnedRow, List.zip_cons_cons, List.zip_nil_right, List.mem_cons, List.mem_nil_iff, or_false] at hy
    rcases hy with rfl | rfl | rfl | rfl | rfl
    · cases _e
    · cases _e
    · cases _e
    · cases _e
    · exact ⟨pin_laid_unicode_utf8_first, by kernel_rfl⟩) fits1
theorem fnWrapTwice_row_tie : Rows.fnWrapTwiceRow.laidByTextAt .later Tryz.pinned [.data, .sentinel, .widerDeep, .wider, .pinned] true :=
  OpenClaim.laidByTextAt_pinned rfl rfl tie rfl rfl rfl rfl (fun y hy _e => by
    simp only [Rows.fnWrapTwiceRow, List.zip_cons_cons, List.zip_nil_right, List.mem_cons, List.mem_nil_iff, or_false] at hy
    rcases hy with rfl | rfl | rfl | rfl | rfl
    · cases _e
    · cases _e
    · cases _e
    · cases _e
    · exact ⟨pin_laid_unicode_utf8_first, by kernel_rfl⟩) fits1
theorem fnConst_row_tie : Rows.fnConstRow.laidByTextAt .later Tryz.pinned [.data, .sentinel, .widerDeep, .wider, .pinned] true :=
  OpenClaim.laidByTextAt_pinned rfl rfl tie rfl rfl rfl rfl (fun y hy _e => by
    simp only [Rows.fnConstRow, List.zip_cons_cons, List.zip_nil_right, List.mem_cons, List.mem_nil_iff, or_false] at hy
    rcases hy with rfl | rfl | rfl | rfl | rfl
    · cases _e
    · cases _e
    · cases _e
    · cases _e
    · exact ⟨pin_laid_unicode_utf8_first, by kernel_rfl⟩) fits1
theorem fnConstDated_row_tie : Rows.fnConstDatedRow.laidByTextAt .later Tryz.pinned [.data, .sentinel, .widerDeep, .wider, .pinned] true :=
  OpenClaim.laidByTextAt_pinned rfl rfl tie rfl rfl rfl rfl (fun y hy _e => by
    simp only [Rows.fnConstDatedRow, List.zip_cons_cons, List.zip_nil_right, List.mem_cons, List.mem_nil_iff, or_false] at hy
    rcases hy with rfl | rfl | rfl | rfl | rfl
    · cases _e
    · cases _e
    · cases _e
    · cases _e
    · exact ⟨pin_laid_unicode_utf8_first, by kernel_rfl⟩) fits1
theorem fnStamped_row_tie : Rows.fnStampedRow.laidByTextAt .later Tryz.pinned [.data, .sentinel, .widerDeep, .wider, .pinned] true :=
  OpenClaim.laidByTextAt_pinned rfl rfl tie rfl rfl rfl rfl (fun y hy _e => by
    simp only [Rows.fnStampedRow, List.zip_cons_cons, List.zip_nil_right, List.mem_cons, List.mem_nil_iff, or_false] at hy
    rcases hy with rfl | rfl | rfl | rfl | rfl
    · cases _e
    · cases _e
    · cases _e
    · cases _e
    · exact ⟨pin_laid_unicode_utf8_first, by kernel_rfl⟩) fits1
theorem fits2 : Tryz.pinned.checked.prog.listedFits [("unicode/utf8.acceptRanges", Rows.laid_unicode_utf8_acceptRanges), ("pub-dialplate/pub/clientgolang/prometheus.errInconsistentCardinality", Rows.laid_pub_dialplate_pub_clientgolang_prometheus_errInconsistentCardinality), ("pub-dialplate/pub/clientgolang/prometheus.separatorByteSlice", Rows.laid_pub_dialplate_pub_clientgolang_prometheus_separatorByteSlice), ("pub-dialplate/pub/clientgolang/prometheus.V2", Rows.laid_pub_dialplate_pub_clientgolang_prometheus_V2), ("strconv.isGraphic", Rows.laid_strconv_isGraphic), ("strconv.isNotPrint16", Rows.laid_strconv_isNotPrint16), ("strconv.isNotPrint32", Rows.laid_strconv_isNotPrint32), ("strconv.isPrint16", Rows.laid_strconv_isPrint16), ("strconv.isPrint32", Rows.laid_strconv_isPrint32), ("unicode/utf8.first", Rows.laid_unicode_utf8_first)] = true := by
  unfold Program.listedFits
  rw [noOwnUnsafe]
  kernel_rfl
theorem tie2 : Tryz.prog.laidByTextLater [("unicode/utf8.acceptRanges", Rows.laid_unicode_utf8_acceptRanges), ("pub-dialplate/pub/clientgolang/prometheus.errInconsistentCardinality", Rows.laid_pub_dialplate_pub_clientgolang_prometheus_errInconsistentCardinality), ("pub-dialplate/pub/clientgolang/prometheus.separatorByteSlice", Rows.laid_pub_dialplate_pub_clientgolang_prometheus_separatorByteSlice), ("pub-dialplate/pub/clientgolang/prometheus.V2", Rows.laid_pub_dialplate_pub_clientgolang_prometheus_V2)] [.data, .sentinel, .widerDeep, .wider] true :=
  Program.laidByTextLater.sub seatTie1 ["unicode/utf8.acceptRanges", "pub-dialplate/pub/clientgolang/prometheus.errInconsistentCardinality", "pub-dialplate/pub/clientgolang/prometheus.separatorByteSlice", "pub-dialplate/pub/clientgolang/prometheus.V2"] (by kernel_rfl) (by kernel_rfl)
theorem fnMetaText_row_tie : Rows.fnMetaTextRow.laidByTextAt .later Tryz.pinned [.data, .sentinel, .widerDeep, .wider, .pinned, .pinned, .pinned, .pinned, .pinned, .pinned] true :=
  OpenClaim.laidByTextAt_pinned rfl rfl tie2 rfl rfl rfl rfl (fun y hy _e => by
    simp only [Rows.fnMetaTextRow, List.zip_cons_cons, List.zip_nil_right, List.mem_cons, List.mem_nil_iff, or_false] at hy
    rcases hy with rfl | rfl | rfl | rfl | rfl | rfl | rfl | rfl | rfl | rfl
    · cases _e
    · cases _e
    · cases _e
    · cases _e
    · exact ⟨pin_laid_strconv_isGraphic, by kernel_rfl⟩
    · exact ⟨pin_laid_strconv_isNotPrint16, by kernel_rfl⟩
    · exact ⟨pin_laid_strconv_isNotPrint32, by kernel_rfl⟩
    · exact ⟨pin_laid_strconv_isPrint16, by kernel_rfl⟩
    · exact ⟨pin_laid_strconv_isPrint32, by kernel_rfl⟩
    · exact ⟨pin_laid_unicode_utf8_first, by kernel_rfl⟩) fits2
theorem fnMetaSameUpto_row_tie : Rows.fnMetaSameUptoRow.laidByTextAt .later Tryz.pinned [.data, .sentinel, .widerDeep, .wider, .pinned] true :=
  OpenClaim.laidByTextAt_pinned rfl rfl tie rfl rfl rfl rfl (fun y hy _e => by
    simp only [Rows.fnMetaSameUptoRow, List.zip_cons_cons, List.zip_nil_right, List.mem_cons, List.mem_nil_iff, or_false] at hy
    rcases hy with rfl | rfl | rfl | rfl | rfl
    · cases _e
    · cases _e
    · cases _e
    · cases _e
    · exact ⟨pin_laid_unicode_utf8_first, by kernel_rfl⟩) fits1
theorem fnLabelTurnedUpto_row_tie : Rows.fnLabelTurnedUptoRow.laidByTextAt .later Tryz.pinned [.data, .sentinel, .widerDeep, .wider, .pinned] true :=
  OpenClaim.laidByTextAt_pinned rfl rfl tie rfl rfl rfl rfl (fun y hy _e => by
    simp only [Rows.fnLabelTurnedUptoRow, List.zip_cons_cons, List.zip_nil_right, List.mem_cons, List.mem_nil_iff, or_false] at hy
    rcases hy with rfl | rfl | rfl | rfl | rfl
    · cases _e
    · cases _e
    · cases _e
    · cases _e
    · exact ⟨pin_laid_unicode_utf8_first, by kernel_rfl⟩) fits1
theorem fnWrapTwiceUpto_row_tie : Rows.fnWrapTwiceUptoRow.laidByTextAt .later Tryz.pinned [.data, .sentinel, .widerDeep, .wider, .pinned] true :=
  OpenClaim.laidByTextAt_pinned rfl rfl tie rfl rfl rfl rfl (fun y hy _e => by
    simp only [Rows.fnWrapTwiceUptoRow, List.zip_cons_cons, List.zip_nil_right, List.mem_cons, List.mem_nil_iff, or_false] at hy
    rcases hy with rfl | rfl | rfl | rfl | rfl
    · cases _e
    · cases _e
    · cases _e
    · cases _e
    · exact ⟨pin_laid_unicode_utf8_first, by kernel_rfl⟩) fits1
theorem fnMetaTextUpto_row_tie : Rows.fnMetaTextUptoRow.laidByTextAt .later Tryz.pinned [.data, .sentinel, .widerDeep, .wider, .pinned, .pinned, .pinned, .pinned, .pinned, .pinned] true :=
  OpenClaim.laidByTextAt_pinned rfl rfl tie2 rfl rfl rfl rfl (fun y hy _e => by
    simp only [Rows.fnMetaTextUptoRow, List.zip_cons_cons, List.zip_nil_right, List.mem_cons, List.mem_nil_iff, or_false] at hy
    rcases hy with rfl | rfl | rfl | rfl | rfl | rfl | rfl | rfl | rfl | rfl
    · cases _e
    · cases _e
    · cases _e
    · cases _e
    · exact ⟨pin_laid_strconv_isGraphic, by kernel_rfl⟩
    · exact ⟨pin_laid_strconv_isNotPrint16, by kernel_rfl⟩
    · exact ⟨pin_laid_strconv_isNotPrint32, by kernel_rfl⟩
    · exact ⟨pin_laid_strconv_isPrint16, by kernel_rfl⟩
    · exact ⟨pin_laid_strconv_isPrint32, by kernel_rfl⟩
    · exact ⟨pin_laid_unicode_utf8_first, by kernel_rfl⟩) fits2
theorem fnConstUpto_row_tie : Rows.fnConstUptoRow.laidByTextAt .later Tryz.pinned [.data, .sentinel, .widerDeep, .wider, .pinned] true :=
  OpenClaim.laidByTextAt_pinned rfl rfl tie rfl rfl rfl rfl (fun y hy _e => by
    simp only [Rows.fnConstUptoRow, List.zip_cons_cons, List.zip_nil_right, List.mem_cons, List.mem_nil_iff, or_false] at hy
    rcases hy with rfl | rfl | rfl | rfl | rfl
    · cases _e
    · cases _e
    · cases _e
    · cases _e
    · exact ⟨pin_laid_unicode_utf8_first, by kernel_rfl⟩) fits1
theorem fnConstDatedUpto_row_tie : Rows.fnConstDatedUptoRow.laidByTextAt .later Tryz.pinned [.data, .sentinel, .widerDeep, .wider, .pinned] true :=
  OpenClaim.laidByTextAt_pinned rfl rfl tie rfl rfl rfl rfl (fun y hy _e => by
    simp only [Rows.fnConstDatedUptoRow, List.zip_cons_cons, List.zip_nil_right, List.mem_cons, List.mem_nil_iff, or_false] at hy
    rcases hy with rfl | rfl | rfl | rfl | rfl
    · cases _e
    · cases _e
    · cases _e
    · cases _e
    · exact ⟨pin_laid_unicode_utf8_first, by kernel_rfl⟩) fits1
theorem fnStampedUpto_row_tie : Rows.fnStampedUptoRow.laidByTextAt .later Tryz.pinned [.data, .sentinel, .widerDeep, .wider, .pinned] true :=
  OpenClaim.laidByTextAt_pinned rfl rfl tie rfl rfl rfl rfl (fun y hy _e => by
    simp only [Rows.fnStampedUptoRow, List.zip_cons_cons, List.zip_nil_right, List.mem_cons, List.mem_nil_iff, or_false] at hy
    rcases hy with rfl | rfl | rfl | rfl | rfl
    · cases _e
    · cases _e
    · cases _e
    · cases _e
    · exact ⟨pin_laid_unicode_utf8_first, by kernel_rfl⟩) fits1
end Go.Proofs.YtfcpapbokefdmaaGreatDoor
