/-
  NARROWER THAN 'FOR EVERY INPUT', by the rows' own cells (each row's printed sentence says how): FnMetaSame: laid · FnLabelTurned: laid · FnWrapTwice: laid · FnMetaText: laid · FnConst: laid · FnConstDated: laid · FnStamped: laid.
  DERIVED. THE GIVEN ROWS OF THIS SEAT. 7 by the template 'for every input the law returns true; each argument reads behind the call as it read before'; 0 by the template 'total and deterministic' (their statements: YtfcpapbokefdmaaGreatDoorTotals.lean).
  GIVEN WITH THE SEED: the statements are not yours to turn. If you find one false, say at which input.
  Laid BY PROGRAM, IN A SANDBOX (cutbox-rows.mjs): the forced cells as the released guide's own fill.sh prints them over the translation f2fe041d146f2c86… (all of the seat's roots in one cut). By AI agents, Wed Nov 11 2026. No macro, syntax, notation, axiom, sorry.
-/
import Derived.Test.YtfcpapbokefdmaaGreatDoorChecked
import GoSem.PinnedTables
import GoSem.Claim
import GoSem.ClaimJoined
import GoSem.ClaimMapViews
import Derived.JoinedTies
import Derived.KernelRfl
namespace Go.Proofs.YtfcpapbokefdmaaGreatDoor
/- THE CELL 'sum', in the pinned program and in every row, IS THE sha256 OF THE DUMP (.gsa) THAT YtfcpapbokefdmaaGreatDoorProg.lean LOADS. Nothing in Lean hashes anything: it is a label: what it is worth is what the hold of that sum in a sandbox is worth. -/
noncomputable def Tryz.pinned : Pinned := { name := "ytfcpapbokefdmaagreatdoor", sum := "f2fe041d146f2c8697f8bad922e9804f084eb61dc87c0a93dafca977643da460", checked := Tryz.checked }
namespace Rows
def none {H : Type} : Left H := { results := [], args := [] }

/- WHAT THE LISTED PACKAGE-LEVEL VARIABLES READ AS WHEN THE CALL BEGINS. Each datum BY PROGRAM (the guide's laid-datum.mjs) off the statement by which the dump's own 'gosem.cut.vars' lays the variable. In a bare row this is a premise. The card (YtfcpapbokefdmaaGreatDoorCards.lean) ties it to the program's text. -/
def laid_unicode_utf8_acceptRanges {H : Type} : DataW H := .agg [.agg [.lit (.int .u8 128), .lit (.int .u8 191)], .agg [.lit (.int .u8 160), .lit (.int .u8 191)], .agg [.lit (.int .u8 128), .lit (.int .u8 159)], .agg [.lit (.int .u8 144), .lit (.int .u8 191)], .agg [.lit (.int .u8 128), .lit (.int .u8 143)], .agg [.lit (.int .u8 0), .lit (.int .u8 0)], .agg [.lit (.int .u8 0), .lit (.int .u8 0)], .agg [.lit (.int .u8 0), .lit (.int .u8 0)], .agg [.lit (.int .u8 0), .lit (.int .u8 0)], .agg [.lit (.int .u8 0), .lit (.int .u8 0)], .agg [.lit (.int .u8 0), .lit (.int .u8 0)], .agg [.lit (.int .u8 0), .lit (.int .u8 0)], .agg [.lit (.int .u8 0), .lit (.int .u8 0)], .agg [.lit (.int .u8 0), .lit (.int .u8 0)], .agg [.lit (.int .u8 0), .lit (.int .u8 0)], .agg [.lit (.int .u8 0), .lit (.int .u8 0)]]
def laid_pub_dialplate_pub_clientgolang_prometheus_errInconsistentCardinality {H : Type} : DataW H := .iface "*errors.errorString" (.ptr (.agg [.lit (.string [105, 110, 99, 111, 110, 115, 105, 115, 116, 101, 110, 116, 32, 108, 97, 98, 101, 108, 32, 99, 97, 114, 100, 105, 110, 97, 108, 105, 116, 121])]))
def laid_pub_dialplate_pub_clientgolang_prometheus_separatorByteSlice {H : Type} : DataW H := .slice [.lit (.int .u8 255)] []
def laid_pub_dialplate_pub_clientgolang_prometheus_V2 {H : Type} : DataW H := .agg []
/-- One of Go's own tables, pinned by name: the form's constant. -/
def laid_unicode_utf8_first : DataW Unit := Go.Pinned.utf8First
/-- One of Go's own tables, pinned by name: the form's constant. -/
def laid_strconv_isGraphic : DataW Unit := Go.Pinned.isGraphic
/-- One of Go's own tables, pinned by name: the form's constant. -/
def laid_strconv_isNotPrint16 : DataW Unit := Go.Pinned.isNotPrint16
/-- One of Go's own tables, pinned by name: the form's constant. -/
def laid_strconv_isNotPrint32 : DataW Unit := Go.Pinned.isNotPrint32
/-- One of Go's own tables, pinned by name: the form's constant. -/
def laid_strconv_isPrint16 : DataW Unit := Go.Pinned.isPrint16
/-- One of Go's own tables, pinned by name: the form's constant. -/
def laid_strconv_isPrint32 : DataW Unit := Go.Pinned.isPrint32

/-- 'laws.FnMetaSame': WHATEVER THE INPUT: true; the input reads as it did. -/
def fnMetaSameSpec : ChangeSpec := { name := "fnMetaSame", fn := fun _ => fun
  | [d1, d2] => { results := [.lit (.bool true)], args := [d1, d2] }
  | _ => none }
def fnMetaSameRow : OpenClaim := { program := "ytfcpapbokefdmaagreatdoor", sum := "f2fe041d146f2c8697f8bad922e9804f084eb61dc87c0a93dafca977643da460", func := "pub-dialplate/laws.FnMetaSame", spec := "fnMetaSame", inPlace := ["internal/abi.NoEscape", "internal/bytealg.MakeNoZero"], unfollowed := true, recurses := true, named := ["pub-dialplate/pub/clientgolang/prometheus.V2", "pub-dialplate/pub/clientgolang/prometheus.separatorByteSlice", "unicode/utf8.first", "unicode/utf8.acceptRanges", "pub-dialplate/pub/clientgolang/prometheus.errInconsistentCardinality"], apart := false, laid := [("unicode/utf8.acceptRanges", laid_unicode_utf8_acceptRanges), ("pub-dialplate/pub/clientgolang/prometheus.errInconsistentCardinality", laid_pub_dialplate_pub_clientgolang_prometheus_errInconsistentCardinality), ("pub-dialplate/pub/clientgolang/prometheus.separatorByteSlice", laid_pub_dialplate_pub_clientgolang_prometheus_separatorByteSlice), ("pub-dialplate/pub/clientgolang/prometheus.V2", laid_pub_dialplate_pub_clientgolang_prometheus_V2), ("unicode/utf8.first", laid_unicode_utf8_first)] }
def FnMetaSameSaid : Prop := fnMetaSameRow.holds Tryz.pinned (OpenSpec.ofChange fnMetaSameSpec)

/-- ITS FALSE NEIGHBOUR: 'it returns false'. Refute it at one input. -/
def fnMetaSameWrong : ChangeSpec := { name := "fnMetaSame", fn := fun _ => fun
  | [d1, d2] => { results := [.lit (.bool false)], args := [d1, d2] }
  | _ => none }
def FnMetaSameWrongFalsely : Prop := fnMetaSameRow.holds Tryz.pinned (OpenSpec.ofChange fnMetaSameWrong)

/-- 'laws.FnLabelTurned': WHATEVER THE INPUT: true; the input reads as it did. -/
def fnLabelTurnedSpec : ChangeSpec := { name := "fnLabelTurned", fn := fun _ => fun
  | [d1, d2] => { results := [.lit (.bool true)], args := [d1, d2] }
  | _ => none }
def fnLabelTurnedRow : OpenClaim := { program := "ytfcpapbokefdmaagreatdoor", sum := "f2fe041d146f2c8697f8bad922e9804f084eb61dc87c0a93dafca977643da460", func := "pub-dialplate/laws.FnLabelTurned", spec := "fnLabelTurned", inPlace := ["internal/abi.NoEscape", "internal/bytealg.MakeNoZero"], unfollowed := true, recurses := true, named := ["pub-dialplate/pub/clientgolang/prometheus.V2", "pub-dialplate/pub/clientgolang/prometheus.separatorByteSlice", "unicode/utf8.first", "unicode/utf8.acceptRanges", "pub-dialplate/pub/clientgolang/prometheus.errInconsistentCardinality"], apart := false, laid := [("unicode/utf8.acceptRanges", laid_unicode_utf8_acceptRanges), ("pub-dialplate/pub/clientgolang/prometheus.errInconsistentCardinality", laid_pub_dialplate_pub_clientgolang_prometheus_errInconsistentCardinality), ("pub-dialplate/pub/clientgolang/prometheus.separatorByteSlice", laid_pub_dialplate_pub_clientgolang_prometheus_separatorByteSlice), ("pub-dialplate/pub/clientgolang/prometheus.V2", laid_pub_dialplate_pub_clientgolang_prometheus_V2), ("unicode/utf8.first", laid_unicode_utf8_first)] }
def FnLabelTurnedSaid : Prop := fnLabelTurnedRow.holds Tryz.pinned (OpenSpec.ofChange fnLabelTurnedSpec)

/-- ITS FALSE NEIGHBOUR: 'it returns false'. Refute it at one input. -/
def fnLabelTurnedWrong : ChangeSpec := { name := "fnLabelTurned", fn := fun _ => fun
  | [d1, d2] => { results := [.lit (.bool false)], args := [d1, d2] }
  | _ => none }
def FnLabelTurnedWrongFalsely : Prop := fnLabelTurnedRow.holds Tryz.pinned (OpenSpec.ofChange fnLabelTurnedWrong)

/-- 'laws.FnWrapTwice': WHATEVER THE INPUT: true; the input reads as it did. -/
def fnWrapTwiceSpec : ChangeSpec := { name := "fnWrapTwice", fn := fun _ => fun
  | [d1, d2, d3, d4, d5] => { results := [.lit (.bool true)], args := [d1, d2, d3, d4, d5] }
  | _ => none }
def fnWrapTwiceRow : OpenClaim := { program := "ytfcpapbokefdmaagreatdoor", sum := "f2fe041d146f2c8697f8bad922e9804f084eb61dc87c0a93dafca977643da460", func := "pub-dialplate/laws.FnWrapTwice", spec := "fnWrapTwice", inPlace := ["internal/abi.NoEscape", "internal/bytealg.MakeNoZero"], unfollowed := true, recurses := true, named := ["pub-dialplate/pub/clientgolang/prometheus.V2", "pub-dialplate/pub/clientgolang/prometheus.separatorByteSlice", "unicode/utf8.first", "unicode/utf8.acceptRanges", "pub-dialplate/pub/clientgolang/prometheus.errInconsistentCardinality"], apart := false, laid := [("unicode/utf8.acceptRanges", laid_unicode_utf8_acceptRanges), ("pub-dialplate/pub/clientgolang/prometheus.errInconsistentCardinality", laid_pub_dialplate_pub_clientgolang_prometheus_errInconsistentCardinality), ("pub-dialplate/pub/clientgolang/prometheus.separatorByteSlice", laid_pub_dialplate_pub_clientgolang_prometheus_separatorByteSlice), ("pub-dialplate/pub/clientgolang/prometheus.V2", laid_pub_dialplate_pub_clientgolang_prometheus_V2), ("unicode/utf8.first", laid_unicode_utf8_first)] }
def FnWrapTwiceSaid : Prop := fnWrapTwiceRow.holds Tryz.pinned (OpenSpec.ofChange fnWrapTwiceSpec)

/-- ITS FALSE NEIGHBOUR: 'it returns false'. Refute it at one input. -/
def fnWrapTwiceWrong : ChangeSpec := { name := "fnWrapTwice", fn := fun _ => fun
  | [d1, d2, d3, d4, d5] => { results := [.lit (.bool false)], args := [d1, d2, d3, d4, d5] }
  | _ => none }
def FnWrapTwiceWrongFalsely : Prop := fnWrapTwiceRow.holds Tryz.pinned (OpenSpec.ofChange fnWrapTwiceWrong)

/-- 'laws.FnMetaText': WHATEVER THE INPUT: true; the input reads as it did. -/
def fnMetaTextSpec : ChangeSpec := { name := "fnMetaText", fn := fun _ => fun
  | [d1, d2] => { results := [.lit (.bool true)], args := [d1, d2] }
  | _ => none }
def fnMetaTextRow : OpenClaim := { program := "ytfcpapbokefdmaagreatdoor", sum := "f2fe041d146f2c8697f8bad922e9804f084eb61dc87c0a93dafca977643da460", func := "pub-dialplate/laws.FnMetaText", spec := "fnMetaText", inPlace := ["internal/abi.NoEscape", "internal/bytealg.MakeNoZero"], unfollowed := true, recurses := true, named := ["pub-dialplate/pub/clientgolang/prometheus.V2", "pub-dialplate/pub/clientgolang/prometheus.separatorByteSlice", "unicode/utf8.first", "unicode/utf8.acceptRanges", "pub-dialplate/pub/clientgolang/prometheus.errInconsistentCardinality", "strconv.isPrint16", "strconv.isNotPrint16", "strconv.isPrint32", "strconv.isNotPrint32", "strconv.isGraphic"], apart := false, laid := [("unicode/utf8.acceptRanges", laid_unicode_utf8_acceptRanges), ("pub-dialplate/pub/clientgolang/prometheus.errInconsistentCardinality", laid_pub_dialplate_pub_clientgolang_prometheus_errInconsistentCardinality), ("pub-dialplate/pub/clientgolang/prometheus.separatorByteSlice", laid_pub_dialplate_pub_clientgolang_prometheus_separatorByteSlice), ("pub-dialplate/pub/clientgolang/prometheus.V2", laid_pub_dialplate_pub_clientgolang_prometheus_V2), ("strconv.isGraphic", laid_strconv_isGraphic), ("strconv.isNotPrint16", laid_strconv_isNotPrint16), ("strconv.isNotPrint32", laid_strconv_isNotPrint32), ("strconv.isPrint16", laid_strconv_isPrint16), ("strconv.isPrint32", laid_strconv_isPrint32), ("unicode/utf8.first", laid_unicode_utf8_first)] }
def FnMetaTextSaid : Prop := fnMetaTextRow.holds Tryz.pinned (OpenSpec.ofChange fnMetaTextSpec)

/-- ITS FALSE NEIGHBOUR: 'it returns false'. Refute it at one input. -/
def fnMetaTextWrong : ChangeSpec := { name := "fnMetaText", fn := fun _ => fun
  | [d1, d2] => { results := [.lit (.bool false)], args := [d1, d2] }
  | _ => none }
def FnMetaTextWrongFalsely : Prop := fnMetaTextRow.holds Tryz.pinned (OpenSpec.ofChange fnMetaTextWrong)

/-- 'laws.FnConst': WHATEVER THE INPUT: true; the input reads as it did. -/
def fnConstSpec : ChangeSpec := { name := "fnConst", fn := fun _ => fun
  | [d1, d2, d3, d4] => { results := [.lit (.bool true)], args := [d1, d2, d3, d4] }
  | _ => none }
def fnConstRow : OpenClaim := { program := "ytfcpapbokefdmaagreatdoor", sum := "f2fe041d146f2c8697f8bad922e9804f084eb61dc87c0a93dafca977643da460", func := "pub-dialplate/laws.FnConst", spec := "fnConst", inPlace := ["internal/reflectlite.ValueOf", "internal/reflectlite.Swapper", "(internal/reflectlite.Value).Len"], unfollowed := true, recurses := true, named := ["pub-dialplate/pub/clientgolang/prometheus.V2", "pub-dialplate/pub/clientgolang/prometheus.separatorByteSlice", "unicode/utf8.first", "unicode/utf8.acceptRanges", "pub-dialplate/pub/clientgolang/prometheus.errInconsistentCardinality"], apart := false, laid := [("unicode/utf8.acceptRanges", laid_unicode_utf8_acceptRanges), ("pub-dialplate/pub/clientgolang/prometheus.errInconsistentCardinality", laid_pub_dialplate_pub_clientgolang_prometheus_errInconsistentCardinality), ("pub-dialplate/pub/clientgolang/prometheus.separatorByteSlice", laid_pub_dialplate_pub_clientgolang_prometheus_separatorByteSlice), ("pub-dialplate/pub/clientgolang/prometheus.V2", laid_pub_dialplate_pub_clientgolang_prometheus_V2), ("unicode/utf8.first", laid_unicode_utf8_first)] }
def FnConstSaid : Prop := fnConstRow.holds Tryz.pinned (OpenSpec.ofChange fnConstSpec)

/-- ITS FALSE NEIGHBOUR: 'it returns false'. Refute it at one input. -/
def fnConstWrong : ChangeSpec := { name := "fnConst", fn := fun _ => fun
  | [d1, d2, d3, d4] => { results := [.lit (.bool false)], args := [d1, d2, d3, d4] }
  | _ => none }
def FnConstWrongFalsely : Prop := fnConstRow.holds Tryz.pinned (OpenSpec.ofChange fnConstWrong)

/-- 'laws.FnConstDated': WHATEVER THE INPUT: true; the input reads as it did. -/
def fnConstDatedSpec : ChangeSpec := { name := "fnConstDated", fn := fun _ => fun
  | [d1, d2, d3, d4, d5] => { results := [.lit (.bool true)], args := [d1, d2, d3, d4, d5] }
  | _ => none }
def fnConstDatedRow : OpenClaim := { program := "ytfcpapbokefdmaagreatdoor", sum := "f2fe041d146f2c8697f8bad922e9804f084eb61dc87c0a93dafca977643da460", func := "pub-dialplate/laws.FnConstDated", spec := "fnConstDated", inPlace := ["internal/reflectlite.ValueOf", "internal/reflectlite.Swapper", "(internal/reflectlite.Value).Len"], unfollowed := true, recurses := true, named := ["pub-dialplate/pub/clientgolang/prometheus.V2", "pub-dialplate/pub/clientgolang/prometheus.separatorByteSlice", "unicode/utf8.first", "unicode/utf8.acceptRanges", "pub-dialplate/pub/clientgolang/prometheus.errInconsistentCardinality"], apart := false, laid := [("unicode/utf8.acceptRanges", laid_unicode_utf8_acceptRanges), ("pub-dialplate/pub/clientgolang/prometheus.errInconsistentCardinality", laid_pub_dialplate_pub_clientgolang_prometheus_errInconsistentCardinality), ("pub-dialplate/pub/clientgolang/prometheus.separatorByteSlice", laid_pub_dialplate_pub_clientgolang_prometheus_separatorByteSlice), ("pub-dialplate/pub/clientgolang/prometheus.V2", laid_pub_dialplate_pub_clientgolang_prometheus_V2), ("unicode/utf8.first", laid_unicode_utf8_first)] }
def FnConstDatedSaid : Prop := fnConstDatedRow.holds Tryz.pinned (OpenSpec.ofChange fnConstDatedSpec)

/-- ITS FALSE NEIGHBOUR: 'it returns false'. Refute it at one input. -/
def fnConstDatedWrong : ChangeSpec := { name := "fnConstDated", fn := fun _ => fun
  | [d1, d2, d3, d4, d5] => { results := [.lit (.bool false)], args := [d1, d2, d3, d4, d5] }
  | _ => none }
def FnConstDatedWrongFalsely : Prop := fnConstDatedRow.holds Tryz.pinned (OpenSpec.ofChange fnConstDatedWrong)

/-- 'laws.FnStamped': WHATEVER THE INPUT: true; the input reads as it did. -/
def fnStampedSpec : ChangeSpec := { name := "fnStamped", fn := fun _ => fun
  | [d1, d2, d3, d4, d5, d6] => { results := [.lit (.bool true)], args := [d1, d2, d3, d4, d5, d6] }
  | _ => none }
def fnStampedRow : OpenClaim := { program := "ytfcpapbokefdmaagreatdoor", sum := "f2fe041d146f2c8697f8bad922e9804f084eb61dc87c0a93dafca977643da460", func := "pub-dialplate/laws.FnStamped", spec := "fnStamped", inPlace := ["internal/reflectlite.ValueOf", "internal/reflectlite.Swapper", "(internal/reflectlite.Value).Len"], unfollowed := true, recurses := true, named := ["pub-dialplate/pub/clientgolang/prometheus.V2", "pub-dialplate/pub/clientgolang/prometheus.separatorByteSlice", "unicode/utf8.first", "unicode/utf8.acceptRanges", "pub-dialplate/pub/clientgolang/prometheus.errInconsistentCardinality"], apart := false, laid := [("unicode/utf8.acceptRanges", laid_unicode_utf8_acceptRanges), ("pub-dialplate/pub/clientgolang/prometheus.errInconsistentCardinality", laid_pub_dialplate_pub_clientgolang_prometheus_errInconsistentCardinality), ("pub-dialplate/pub/clientgolang/prometheus.separatorByteSlice", laid_pub_dialplate_pub_clientgolang_prometheus_separatorByteSlice), ("pub-dialplate/pub/clientgolang/prometheus.V2", laid_pub_dialplate_pub_clientgolang_prometheus_V2), ("unicode/utf8.first", laid_unicode_utf8_first)] }
def FnStampedSaid : Prop := fnStampedRow.holds Tryz.pinned (OpenSpec.ofChange fnStampedSpec)

/-- ITS FALSE NEIGHBOUR: 'it returns false'. Refute it at one input. -/
def fnStampedWrong : ChangeSpec := { name := "fnStamped", fn := fun _ => fun
  | [d1, d2, d3, d4, d5, d6] => { results := [.lit (.bool false)], args := [d1, d2, d3, d4, d5, d6] }
  | _ => none }
def FnStampedWrongFalsely : Prop := fnStampedRow.holds Tryz.pinned (OpenSpec.ofChange fnStampedWrong)

/- THE SECOND FORM. 'bulk': how many values and letters a reading holds, each counted each time it is reached (what is shared counts as often as it is met; a slice's spare places count too). A statement '..UptoSaid' is the law's where the arguments, and the package variables that the reading takes, are together of bulk at most 1048576: NARROWER than '..Said'. Prove '..Said' where nothing that the law and all that it calls make is longer than what came in: it says more and counts as full. Else prove '..UptoSaid'. A law counts once. -/
mutual
def uptoBulk {H : Type} : DataW H → Nat
  | .lit (.string bytes) => bytes.length + 1
  | .lit _ => 1
  | .nil => 1
  | .ptr d => uptoBulk d + 1
  | .slice elems spare => uptoBulkAll elems + uptoBulkAll spare + 1
  | .agg parts => uptoBulkAll parts + 1
  | .iface _ d => uptoBulk d + 1
  | .map entries => uptoBulkEntries entries + 1
  | .held _ => 1
def uptoBulkAll {H : Type} : List (DataW H) → Nat
  | [] => 0
  | d :: r => uptoBulk d + uptoBulkAll r
def uptoBulkEntries {H : Type} : List (Lit × DataW H) → Nat
  | [] => 0
  | x :: r => uptoBulkEntry x + uptoBulkEntries r
def uptoBulkEntry {H : Type} : Lit × DataW H → Nat
  | (.string bytes, d) => bytes.length + uptoBulk d + 1
  | (_, d) => uptoBulk d + 1
 end
def uptoSmall : (H : Type) → List (DataW H) → Bool := fun _ ds => decide (uptoBulkAll ds ≤ 1048576)
def OpenSpec.upto (s : _root_.Go.ChangeSpec) : _root_.Go.OpenSpec := { _root_.Go.OpenSpec.ofChange s with cond := some uptoSmall }

/-- 'laws.FnMetaSame', WHERE WHAT IT READS IS OF BULK AT MOST 1048576: true; the input reads as it did. -/
def fnMetaSameUptoRow : OpenClaim := { program := "ytfcpapbokefdmaagreatdoor", sum := "f2fe041d146f2c8697f8bad922e9804f084eb61dc87c0a93dafca977643da460", func := "pub-dialplate/laws.FnMetaSame", spec := "fnMetaSame", inPlace := ["internal/abi.NoEscape", "internal/bytealg.MakeNoZero"], unfollowed := true, recurses := true, named := ["pub-dialplate/pub/clientgolang/prometheus.V2", "pub-dialplate/pub/clientgolang/prometheus.separatorByteSlice", "unicode/utf8.first", "unicode/utf8.acceptRanges", "pub-dialplate/pub/clientgolang/prometheus.errInconsistentCardinality"], apart := false, laid := [("unicode/utf8.acceptRanges", laid_unicode_utf8_acceptRanges), ("pub-dialplate/pub/clientgolang/prometheus.errInconsistentCardinality", laid_pub_dialplate_pub_clientgolang_prometheus_errInconsistentCardinality), ("pub-dialplate/pub/clientgolang/prometheus.separatorByteSlice", laid_pub_dialplate_pub_clientgolang_prometheus_separatorByteSlice), ("pub-dialplate/pub/clientgolang/prometheus.V2", laid_pub_dialplate_pub_clientgolang_prometheus_V2), ("unicode/utf8.first", laid_unicode_utf8_first)], narrowed := true }
def FnMetaSameUptoSaid : Prop := fnMetaSameUptoRow.holds Tryz.pinned (OpenSpec.upto fnMetaSameSpec)

/-- 'laws.FnLabelTurned', WHERE WHAT IT READS IS OF BULK AT MOST 1048576: true; the input reads as it did. -/
def fnLabelTurnedUptoRow : OpenClaim := { program := "ytfcpapbokefdmaagreatdoor", sum := "f2fe041d146f2c8697f8bad922e9804f084eb61dc87c0a93dafca977643da460", func := "pub-dialplate/laws.FnLabelTurned", spec := "fnLabelTurned", inPlace := ["internal/abi.NoEscape", "internal/bytealg.MakeNoZero"], unfollowed := true, recurses := true, named := ["pub-dialplate/pub/clientgolang/prometheus.V2", "pub-dialplate/pub/clientgolang/prometheus.separatorByteSlice", "unicode/utf8.first", "unicode/utf8.acceptRanges", "pub-dialplate/pub/clientgolang/prometheus.errInconsistentCardinality"], apart := false, laid := [("unicode/utf8.acceptRanges", laid_unicode_utf8_acceptRanges), ("pub-dialplate/pub/clientgolang/prometheus.errInconsistentCardinality", laid_pub_dialplate_pub_clientgolang_prometheus_errInconsistentCardinality), ("pub-dialplate/pub/clientgolang/prometheus.separatorByteSlice", laid_pub_dialplate_pub_clientgolang_prometheus_separatorByteSlice), ("pub-dialplate/pub/clientgolang/prometheus.V2", laid_pub_dialplate_pub_clientgolang_prometheus_V2), ("unicode/utf8.first", laid_unicode_utf8_first)], narrowed := true }
def FnLabelTurnedUptoSaid : Prop := fnLabelTurnedUptoRow.holds Tryz.pinned (OpenSpec.upto fnLabelTurnedSpec)

/-- 'laws.FnWrapTwice', WHERE WHAT IT READS IS OF BULK AT MOST 1048576: true; the input reads as it did. -/
def fnWrapTwiceUptoRow : OpenClaim := { program := "ytfcpapbokefdmaagreatdoor", sum := "f2fe041d146f2c8697f8bad922e9804f084eb61dc87c0a93dafca977643da460", func := "pub-dialplate/laws.FnWrapTwice", spec := "fnWrapTwice", inPlace := ["internal/abi.NoEscape", "internal/bytealg.MakeNoZero"], unfollowed := true, recurses := true, named := ["pub-dialplate/pub/clientgolang/prometheus.V2", "pub-dialplate/pub/clientgolang/prometheus.separatorByteSlice", "unicode/utf8.first", "unicode/utf8.acceptRanges", "pub-dialplate/pub/clientgolang/prometheus.errInconsistentCardinality"], apart := false, laid := [("unicode/utf8.acceptRanges", laid_unicode_utf8_acceptRanges), ("pub-dialplate/pub/clientgolang/prometheus.errInconsistentCardinality", laid_pub_dialplate_pub_clientgolang_prometheus_errInconsistentCardinality), ("pub-dialplate/pub/clientgolang/prometheus.separatorByteSlice", laid_pub_dialplate_pub_clientgolang_prometheus_separatorByteSlice), ("pub-dialplate/pub/clientgolang/prometheus.V2", laid_pub_dialplate_pub_clientgolang_prometheus_V2), ("unicode/utf8.first", laid_unicode_utf8_first)], narrowed := true }
def FnWrapTwiceUptoSaid : Prop := fnWrapTwiceUptoRow.holds Tryz.pinned (OpenSpec.upto fnWrapTwiceSpec)

/-- 'laws.FnMetaText', WHERE WHAT IT READS IS OF BULK AT MOST 1048576: true; the input reads as it did. -/
def fnMetaTextUptoRow : OpenClaim := { program := "ytfcpapbokefdmaagreatdoor", sum := "f2fe041d146f2c8697f8bad922e9804f084eb61dc87c0a93dafca977643da460", func := "pub-dialplate/laws.FnMetaText", spec := "fnMetaText", inPlace := ["internal/abi.NoEscape", "internal/bytealg.MakeNoZero"], unfollowed := true, recurses := true, named := ["pub-dialplate/pub/clientgolang/prometheus.V2", "pub-dialplate/pub/clientgolang/prometheus.separatorByteSlice", "unicode/utf8.first", "unicode/utf8.acceptRanges", "pub-dialplate/pub/clientgolang/prometheus.errInconsistentCardinality", "strconv.isPrint16", "strconv.isNotPrint16", "strconv.isPrint32", "strconv.isNotPrint32", "strconv.isGraphic"], apart := false, laid := [("unicode/utf8.acceptRanges", laid_unicode_utf8_acceptRanges), ("pub-dialplate/pub/clientgolang/prometheus.errInconsistentCardinality", laid_pub_dialplate_pub_clientgolang_prometheus_errInconsistentCardinality), ("pub-dialplate/pub/clientgolang/prometheus.separatorByteSlice", laid_pub_dialplate_pub_clientgolang_prometheus_separatorByteSlice), ("pub-dialplate/pub/clientgolang/prometheus.V2", laid_pub_dialplate_pub_clientgolang_prometheus_V2), ("strconv.isGraphic", laid_strconv_isGraphic), ("strconv.isNotPrint16", laid_strconv_isNotPrint16), ("strconv.isNotPrint32", laid_strconv_isNotPrint32), ("strconv.isPrint16", laid_strconv_isPrint16), ("strconv.isPrint32", laid_strconv_isPrint32), ("unicode/utf8.first", laid_unicode_utf8_first)], narrowed := true }
def FnMetaTextUptoSaid : Prop := fnMetaTextUptoRow.holds Tryz.pinned (OpenSpec.upto fnMetaTextSpec)

/-- 'laws.FnConst', WHERE WHAT IT READS IS OF BULK AT MOST 1048576: true; the input reads as it did. -/
def fnConstUptoRow : OpenClaim := { program := "ytfcpapbokefdmaagreatdoor", sum := "f2fe041d146f2c8697f8bad922e9804f084eb61dc87c0a93dafca977643da460", func := "pub-dialplate/laws.FnConst", spec := "fnConst", inPlace := ["internal/reflectlite.ValueOf", "internal/reflectlite.Swapper", "(internal/reflectlite.Value).Len"], unfollowed := true, recurses := true, named := ["pub-dialplate/pub/clientgolang/prometheus.V2", "pub-dialplate/pub/clientgolang/prometheus.separatorByteSlice", "unicode/utf8.first", "unicode/utf8.acceptRanges", "pub-dialplate/pub/clientgolang/prometheus.errInconsistentCardinality"], apart := false, laid := [("unicode/utf8.acceptRanges", laid_unicode_utf8_acceptRanges), ("pub-dialplate/pub/clientgolang/prometheus.errInconsistentCardinality", laid_pub_dialplate_pub_clientgolang_prometheus_errInconsistentCardinality), ("pub-dialplate/pub/clientgolang/prometheus.separatorByteSlice", laid_pub_dialplate_pub_clientgolang_prometheus_separatorByteSlice), ("pub-dialplate/pub/clientgolang/prometheus.V2", laid_pub_dialplate_pub_clientgolang_prometheus_V2), ("unicode/utf8.first", laid_unicode_utf8_first)], narrowed := true }
def FnConstUptoSaid : Prop := fnConstUptoRow.holds Tryz.pinned (OpenSpec.upto fnConstSpec)

/-- 'laws.FnConstDated', WHERE WHAT IT READS IS OF BULK AT MOST 1048576: true; the input reads as it did. -/
def fnConstDatedUptoRow : OpenClaim := { program := "ytfcpapbokefdmaagreatdoor", sum := "f2fe041d146f2c8697f8bad922e9804f084eb61dc87c0a93dafca977643da460", func := "pub-dialplate/laws.FnConstDated", spec := "fnConstDated", inPlace := ["internal/reflectlite.ValueOf", "internal/reflectlite.Swapper", "(internal/reflectlite.Value).Len"], unfollowed := true, recurses := true, named := ["pub-dialplate/pub/clientgolang/prometheus.V2", "pub-dialplate/pub/clientgolang/prometheus.separatorByteSlice", "unicode/utf8.first", "unicode/utf8.acceptRanges", "pub-dialplate/pub/clientgolang/prometheus.errInconsistentCardinality"], apart := false, laid := [("unicode/utf8.acceptRanges", laid_unicode_utf8_acceptRanges), ("pub-dialplate/pub/clientgolang/prometheus.errInconsistentCardinality", laid_pub_dialplate_pub_clientgolang_prometheus_errInconsistentCardinality), ("pub-dialplate/pub/clientgolang/prometheus.separatorByteSlice", laid_pub_dialplate_pub_clientgolang_prometheus_separatorByteSlice), ("pub-dialplate/pub/clientgolang/prometheus.V2", laid_pub_dialplate_pub_clientgolang_prometheus_V2), ("unicode/utf8.first", laid_unicode_utf8_first)], narrowed := true }
def FnConstDatedUptoSaid : Prop := fnConstDatedUptoRow.holds Tryz.pinned (OpenSpec.upto fnConstDatedSpec)

/-- 'laws.FnStamped', WHERE WHAT IT READS IS OF BULK AT MOST 1048576: true; the input reads as it did. -/
def fnStampedUptoRow : OpenClaim := { program := "ytfcpapbokefdmaagreatdoor", sum := "f2fe041d146f2c8697f8bad922e9804f084eb61dc87c0a93dafca977643da460", func := "pub-dialplate/laws.FnStamped", spec := "fnStamped", inPlace := ["internal/reflectlite.ValueOf", "internal/reflectlite.Swapper", "(internal/reflectlite.Value).Len"], unfollowed := true, recurses := true, named := ["pub-dialplate/pub/clientgolang/prometheus.V2", "pub-dialplate/pub/clientgolang/prometheus.separatorByteSlice", "unicode/utf8.first", "unicode/utf8.acceptRanges", "pub-dialplate/pub/clientgolang/prometheus.errInconsistentCardinality"], apart := false, laid := [("unicode/utf8.acceptRanges", laid_unicode_utf8_acceptRanges), ("pub-dialplate/pub/clientgolang/prometheus.errInconsistentCardinality", laid_pub_dialplate_pub_clientgolang_prometheus_errInconsistentCardinality), ("pub-dialplate/pub/clientgolang/prometheus.separatorByteSlice", laid_pub_dialplate_pub_clientgolang_prometheus_separatorByteSlice), ("pub-dialplate/pub/clientgolang/prometheus.V2", laid_pub_dialplate_pub_clientgolang_prometheus_V2), ("unicode/utf8.first", laid_unicode_utf8_first)], narrowed := true }
def FnStampedUptoSaid : Prop := fnStampedUptoRow.holds Tryz.pinned (OpenSpec.upto fnStampedSpec)

end Rows
end Go.Proofs.YtfcpapbokefdmaaGreatDoor
