/-
  NARROWER THAN 'FOR EVERY INPUT', by the rows' own cells (each row's printed sentence says how): FnGaugeRun: laid · FnCounterGrows: laid · FnConstNative: laid · FnMarkedBuckets: laid.
  DERIVED. THE GIVEN ROWS OF THIS SEAT. 4 by the template 'for every input the law returns true; each argument reads behind the call as it read before'; 0 by the template 'total and deterministic' (their statements: YtlolomodcbkblaaGreatDoorTotals.lean).
  GIVEN WITH THE SEED: the statements are not yours to turn. If you find one false, say at which input.
  Laid BY PROGRAM, IN A SANDBOX (cutbox-rows.mjs): the forced cells as the released guide's own fill.sh prints them over the translation 62877d9b293c2e0a… (all of the seat's roots in one cut). By AI agents, Wed Nov 11 2026. No macro, syntax, notation, axiom, sorry.
-/
import Derived.Test.YtlolomodcbkblaaGreatDoorChecked
import GoSem.PinnedTables
import GoSem.Claim
import GoSem.ClaimJoined
import GoSem.ClaimMapViews
import Derived.JoinedTies
import Derived.KernelRfl
namespace Go.Proofs.YtlolomodcbkblaaGreatDoor
/- THE CELL 'sum', in the pinned program and in every row, IS THE sha256 OF THE DUMP (.gsa) THAT YtlolomodcbkblaaGreatDoorProg.lean LOADS. Nothing in Lean hashes anything: it is a label: what it is worth is what the hold of that sum in a sandbox is worth. -/
noncomputable def Tryz.pinned : Pinned := { name := "ytlolomodcbkblaagreatdoor", sum := "62877d9b293c2e0a826a9bc5f82532f5538262c924d0ca7f74924e83698c36ab", checked := Tryz.checked }
namespace Rows
def none {H : Type} : Left H := { results := [], args := [] }

/- WHAT THE LISTED PACKAGE-LEVEL VARIABLES READ AS WHEN THE CALL BEGINS. Each datum BY PROGRAM (the guide's laid-datum.mjs) off the statement by which the dump's own 'gosem.cut.vars' lays the variable. In a bare row this is a premise. The card (YtlolomodcbkblaaGreatDoorCards.lean) ties it to the program's text. -/
def laid_unicode_utf8_acceptRanges {H : Type} : DataW H := .agg [.agg [.lit (.int .u8 128), .lit (.int .u8 191)], .agg [.lit (.int .u8 160), .lit (.int .u8 191)], .agg [.lit (.int .u8 128), .lit (.int .u8 159)], .agg [.lit (.int .u8 144), .lit (.int .u8 191)], .agg [.lit (.int .u8 128), .lit (.int .u8 143)], .agg [.lit (.int .u8 0), .lit (.int .u8 0)], .agg [.lit (.int .u8 0), .lit (.int .u8 0)], .agg [.lit (.int .u8 0), .lit (.int .u8 0)], .agg [.lit (.int .u8 0), .lit (.int .u8 0)], .agg [.lit (.int .u8 0), .lit (.int .u8 0)], .agg [.lit (.int .u8 0), .lit (.int .u8 0)], .agg [.lit (.int .u8 0), .lit (.int .u8 0)], .agg [.lit (.int .u8 0), .lit (.int .u8 0)], .agg [.lit (.int .u8 0), .lit (.int .u8 0)], .agg [.lit (.int .u8 0), .lit (.int .u8 0)], .agg [.lit (.int .u8 0), .lit (.int .u8 0)]]
def laid_pub_dialplate_pub_clientgolang_prometheus_errInconsistentCardinality {H : Type} : DataW H := .iface "*errors.errorString" (.ptr (.agg [.lit (.string [105, 110, 99, 111, 110, 115, 105, 115, 116, 101, 110, 116, 32, 108, 97, 98, 101, 108, 32, 99, 97, 114, 100, 105, 110, 97, 108, 105, 116, 121])]))
def laid_pub_dialplate_pub_clientgolang_prometheus_separatorByteSlice {H : Type} : DataW H := .slice [.lit (.int .u8 255)] []
def laid_pub_dialplate_pub_clientgolang_prometheus_V2 {H : Type} : DataW H := .agg []
/-- One of Go's own tables, pinned by name: the form's constant. -/
def laid_unicode_utf8_first : DataW Unit := Go.Pinned.utf8First

/-- 'laws.FnGaugeRun': WHATEVER THE INPUT: true; the input reads as it did. -/
def fnGaugeRunSpec : ChangeSpec := { name := "fnGaugeRun", fn := fun _ => fun
  | [d] => { results := [.lit (.bool true)], args := [d] }
  | _ => none }
def fnGaugeRunRow : OpenClaim := { program := "ytlolomodcbkblaagreatdoor", sum := "62877d9b293c2e0a826a9bc5f82532f5538262c924d0ca7f74924e83698c36ab", func := "pub-dialplate/laws.FnGaugeRun", spec := "fnGaugeRun", inPlace := ["internal/reflectlite.ValueOf", "internal/reflectlite.Swapper", "(internal/reflectlite.Value).Len", "internal/abi.NoEscape", "internal/bytealg.MakeNoZero"], unfollowed := true, recurses := true, named := ["pub-dialplate/pub/clientgolang/prometheus.V2", "pub-dialplate/pub/clientgolang/prometheus.separatorByteSlice", "unicode/utf8.first", "unicode/utf8.acceptRanges", "pub-dialplate/pub/clientgolang/prometheus.errInconsistentCardinality"], apart := false, laid := [("unicode/utf8.acceptRanges", laid_unicode_utf8_acceptRanges), ("pub-dialplate/pub/clientgolang/prometheus.errInconsistentCardinality", laid_pub_dialplate_pub_clientgolang_prometheus_errInconsistentCardinality), ("pub-dialplate/pub/clientgolang/prometheus.separatorByteSlice", laid_pub_dialplate_pub_clientgolang_prometheus_separatorByteSlice), ("pub-dialplate/pub/clientgolang/prometheus.V2", laid_pub_dialplate_pub_clientgolang_prometheus_V2), ("unicode/utf8.first", laid_unicode_utf8_first)] }
def FnGaugeRunSaid : Prop := fnGaugeRunRow.holds Tryz.pinned (OpenSpec.ofChange fnGaugeRunSpec)

/-- ITS FALSE NEIGHBOUR: 'it returns false'. Refute it at one input. -/
def fnGaugeRunWrong : ChangeSpec := { name := "fnGaugeRun", fn := fun _ => fun
  | [d] => { results := [.lit (.bool false)], args := [d] }
  | _ => none }
def FnGaugeRunWrongFalsely : Prop := fnGaugeRunRow.holds Tryz.pinned (OpenSpec.ofChange fnGaugeRunWrong)

/-- 'laws.FnCounterGrows': WHATEVER THE INPUT: true; the input reads as it did. -/
def fnCounterGrowsSpec : ChangeSpec := { name := "fnCounterGrows", fn := fun _ => fun
  | [d1, d2, d3] => { results := [.lit (.bool true)], args := [d1, d2, d3] }
  | _ => none }
def fnCounterGrowsRow : OpenClaim := { program := "ytlolomodcbkblaagreatdoor", sum := "62877d9b293c2e0a826a9bc5f82532f5538262c924d0ca7f74924e83698c36ab", func := "pub-dialplate/laws.FnCounterGrows", spec := "fnCounterGrows", inPlace := ["internal/reflectlite.ValueOf", "internal/reflectlite.Swapper", "(internal/reflectlite.Value).Len", "internal/abi.NoEscape", "internal/bytealg.MakeNoZero"], unfollowed := true, recurses := true, named := ["pub-dialplate/pub/clientgolang/prometheus.V2", "pub-dialplate/pub/clientgolang/prometheus.separatorByteSlice", "unicode/utf8.first", "unicode/utf8.acceptRanges", "pub-dialplate/pub/clientgolang/prometheus.errInconsistentCardinality"], apart := false, laid := [("unicode/utf8.acceptRanges", laid_unicode_utf8_acceptRanges), ("pub-dialplate/pub/clientgolang/prometheus.errInconsistentCardinality", laid_pub_dialplate_pub_clientgolang_prometheus_errInconsistentCardinality), ("pub-dialplate/pub/clientgolang/prometheus.separatorByteSlice", laid_pub_dialplate_pub_clientgolang_prometheus_separatorByteSlice), ("pub-dialplate/pub/clientgolang/prometheus.V2", laid_pub_dialplate_pub_clientgolang_prometheus_V2), ("unicode/utf8.first", laid_unicode_utf8_first)] }
def FnCounterGrowsSaid : Prop := fnCounterGrowsRow.holds Tryz.pinned (OpenSpec.ofChange fnCounterGrowsSpec)

/-- ITS FALSE NEIGHBOUR: 'it returns false'. Refute it at one input. -/
def fnCounterGrowsWrong : ChangeSpec := { name := "fnCounterGrows", fn := fun _ => fun
  | [d1, d2, d3] => { results := [.lit (.bool false)], args := [d1, d2, d3] }
  | _ => none }
def FnCounterGrowsWrongFalsely : Prop := fnCounterGrowsRow.holds Tryz.pinned (OpenSpec.ofChange fnCounterGrowsWrong)

/-- 'laws.FnConstNative': WHATEVER THE INPUT: true; the input reads as it did. -/
def fnConstNativeSpec : ChangeSpec := { name := "fnConstNative", fn := fun _ => fun
  | [d1, d2, d3, d4, d5, d6, d7, d8] => { results := [.lit (.bool true)], args := [d1, d2, d3, d4, d5, d6, d7, d8] }
  | _ => none }
def fnConstNativeRow : OpenClaim := { program := "ytlolomodcbkblaagreatdoor", sum := "62877d9b293c2e0a826a9bc5f82532f5538262c924d0ca7f74924e83698c36ab", func := "pub-dialplate/laws.FnConstNative", spec := "fnConstNative", inPlace := ["internal/reflectlite.ValueOf", "internal/reflectlite.Swapper", "(internal/reflectlite.Value).Len"], unfollowed := true, recurses := true, named := ["pub-dialplate/pub/clientgolang/prometheus.V2", "pub-dialplate/pub/clientgolang/prometheus.separatorByteSlice", "unicode/utf8.first", "unicode/utf8.acceptRanges", "pub-dialplate/pub/clientgolang/prometheus.errInconsistentCardinality"], apart := false, laid := [("unicode/utf8.acceptRanges", laid_unicode_utf8_acceptRanges), ("pub-dialplate/pub/clientgolang/prometheus.errInconsistentCardinality", laid_pub_dialplate_pub_clientgolang_prometheus_errInconsistentCardinality), ("pub-dialplate/pub/clientgolang/prometheus.separatorByteSlice", laid_pub_dialplate_pub_clientgolang_prometheus_separatorByteSlice), ("pub-dialplate/pub/clientgolang/prometheus.V2", laid_pub_dialplate_pub_clientgolang_prometheus_V2), ("unicode/utf8.first", laid_unicode_utf8_first)] }
def FnConstNativeSaid : Prop := fnConstNativeRow.holds Tryz.pinned (OpenSpec.ofChange fnConstNativeSpec)

/-- ITS FALSE NEIGHBOUR: 'it returns false'. Refute it at one input. -/
def fnConstNativeWrong : ChangeSpec := { name := "fnConstNative", fn := fun _ => fun
  | [d1, d2, d3, d4, d5, d6, d7, d8] => { results := [.lit (.bool false)], args := [d1, d2, d3, d4, d5, d6, d7, d8] }
  | _ => none }
def FnConstNativeWrongFalsely : Prop := fnConstNativeRow.holds Tryz.pinned (OpenSpec.ofChange fnConstNativeWrong)

/-- 'laws.FnMarkedBuckets': WHATEVER THE INPUT: true; the input reads as it did. -/
def fnMarkedBucketsSpec : ChangeSpec := { name := "fnMarkedBuckets", fn := fun _ => fun
  | [d1, d2, d3, d4, d5, d6] => { results := [.lit (.bool true)], args := [d1, d2, d3, d4, d5, d6] }
  | _ => none }
def fnMarkedBucketsRow : OpenClaim := { program := "ytlolomodcbkblaagreatdoor", sum := "62877d9b293c2e0a826a9bc5f82532f5538262c924d0ca7f74924e83698c36ab", func := "pub-dialplate/laws.FnMarkedBuckets", spec := "fnMarkedBuckets", inPlace := ["internal/reflectlite.ValueOf", "internal/reflectlite.Swapper", "(internal/reflectlite.Value).Len"], unfollowed := true, recurses := true, named := ["pub-dialplate/pub/clientgolang/prometheus.V2", "pub-dialplate/pub/clientgolang/prometheus.separatorByteSlice", "unicode/utf8.first", "unicode/utf8.acceptRanges", "pub-dialplate/pub/clientgolang/prometheus.errInconsistentCardinality"], apart := false, laid := [("unicode/utf8.acceptRanges", laid_unicode_utf8_acceptRanges), ("pub-dialplate/pub/clientgolang/prometheus.errInconsistentCardinality", laid_pub_dialplate_pub_clientgolang_prometheus_errInconsistentCardinality), ("pub-dialplate/pub/clientgolang/prometheus.separatorByteSlice", laid_pub_dialplate_pub_clientgolang_prometheus_separatorByteSlice), ("pub-dialplate/pub/clientgolang/prometheus.V2", laid_pub_dialplate_pub_clientgolang_prometheus_V2), ("unicode/utf8.first", laid_unicode_utf8_first)] }
def FnMarkedBucketsSaid : Prop := fnMarkedBucketsRow.holds Tryz.pinned (OpenSpec.ofChange fnMarkedBucketsSpec)

/-- ITS FALSE NEIGHBOUR: 'it returns false'. Refute it at one input. -/
def fnMarkedBucketsWrong : ChangeSpec := { name := "fnMarkedBuckets", fn := fun _ => fun
  | [d1, d2, d3, d4, d5, d6] => { results := [.lit (.bool false)], args := [d1, d2, d3, d4, d5, d6] }
  | _ => none }
def FnMarkedBucketsWrongFalsely : Prop := fnMarkedBucketsRow.holds Tryz.pinned (OpenSpec.ofChange fnMarkedBucketsWrong)

/- THE SECOND FORM. 'bulk': how many values and letters a reading holds, each counted each time it is reached (what is shared counts as often as it is met; a slice's spare places count too). A statement '..UptoSaid' is the law's where the arguments, and the package variables that the reading takes, are together of bulk at most 1048576: NARROWER than '..Said'. Prove '..Said' where nothing that the law and all that it calls make is longer than what came in: it says more and counts as full. Else prove '..UptoSaid'. A law counts once. -/
mutual
def uptoBulk {H : Type} : DataW H → Nat
  | .lit (.string bytes) => bytes.length + 1
  | .lit _ => 1
  | .nil => 1
  | .ptr d => uptoBulk d + 1
  | .slice elems spare => uptoBulkAll elems + uptoBulkAll spare + 1
  | .agg parts => uptoBulkAll parts + 1
  | .iface _ d => uptoBulk d + 1
  | .map entries => uptoBulkEntries entries + 1
  | .held _ => 1
def uptoBulkAll {H : Type} : List (DataW H) → Nat
  | [] => 0
  | d :: r => uptoBulk d + uptoBulkAll r
def uptoBulkEntries {H : Type} : List (Lit × DataW H) → Nat
  | [] => 0
  | x :: r => uptoBulkEntry x + uptoBulkEntries r
def uptoBulkEntry {H : Type} : Lit × DataW H → Nat
  | (.string bytes, d) => bytes.length + uptoBulk d + 1
  | (_, d) => uptoBulk d + 1
 end
def uptoSmall : (H : Type) → List (DataW H) → Bool := fun _ ds => decide (uptoBulkAll ds ≤ 1048576)
def OpenSpec.upto (s : _root_.Go.ChangeSpec) : _root_.Go.OpenSpec := { _root_.Go.OpenSpec.ofChange s with cond := some uptoSmall }

/-- 'laws.FnGaugeRun', WHERE WHAT IT READS IS OF BULK AT MOST 1048576: true; the input reads as it did. -/
def fnGaugeRunUptoRow : OpenClaim := { program := "ytlolomodcbkblaagreatdoor", sum := "62877d9b293c2e0a826a9bc5f82532f5538262c924d0ca7f74924e83698c36ab", func := "pub-dialplate/laws.FnGaugeRun", spec := "fnGaugeRun", inPlace := ["internal/reflectlite.ValueOf", "internal/reflectlite.Swapper", "(internal/reflectlite.Value).Len", "internal/abi.NoEscape", "internal/bytealg.MakeNoZero"], unfollowed := true, recurses := true, named := ["pub-dialplate/pub/clientgolang/prometheus.V2", "pub-dialplate/pub/clientgolang/prometheus.separatorByteSlice", "unicode/utf8.first", "unicode/utf8.acceptRanges", "pub-dialplate/pub/clientgolang/prometheus.errInconsistentCardinality"], apart := false, laid := [("unicode/utf8.acceptRanges", laid_unicode_utf8_acceptRanges), ("pub-dialplate/pub/clientgolang/prometheus.errInconsistentCardinality", laid_pub_dialplate_pub_clientgolang_prometheus_errInconsistentCardinality), ("pub-dialplate/pub/clientgolang/prometheus.separatorByteSlice", laid_pub_dialplate_pub_clientgolang_prometheus_separatorByteSlice), ("pub-dialplate/pub/clientgolang/prometheus.V2", laid_pub_dialplate_pub_clientgolang_prometheus_V2), ("unicode/utf8.first", laid_unicode_utf8_first)], narrowed := true }
def FnGaugeRunUptoSaid : Prop := fnGaugeRunUptoRow.holds Tryz.pinned (OpenSpec.upto fnGaugeRunSpec)

/-- 'laws.FnCounterGrows', WHERE WHAT IT READS IS OF BULK AT MOST 1048576: true; the input reads as it did. -/
def fnCounterGrowsUptoRow : OpenClaim := { program := "ytlolomodcbkblaagreatdoor", sum := "62877d9b293c2e0a826a9bc5f82532f5538262c924d0ca7f74924e83698c36ab", func := "pub-dialplate/laws.FnCounterGrows", spec := "fnCounterGrows", inPlace := ["internal/reflectlite.ValueOf", "internal/reflectlite.Swapper", "(internal/reflectlite.Value).Len", "internal/abi.NoEscape", "internal/bytealg.MakeNoZero"], unfollowed := true, recurses := true, named := ["pub-dialplate/pub/clientgolang/prometheus.V2", "pub-dialplate/pub/clientgolang/prometheus.separatorByteSlice", "unicode/utf8.first", "unicode/utf8.acceptRanges", "pub-dialplate/pub/clientgolang/prometheus.errInconsistentCardinality"], apart := false, laid := [("unicode/utf8.acceptRanges", laid_unicode_utf8_acceptRanges), ("pub-dialplate/pub/clientgolang/prometheus.errInconsistentCardinality", laid_pub_dialplate_pub_clientgolang_prometheus_errInconsistentCardinality), ("pub-dialplate/pub/clientgolang/prometheus.separatorByteSlice", laid_pub_dialplate_pub_clientgolang_prometheus_separatorByteSlice), ("pub-dialplate/pub/clientgolang/prometheus.V2", laid_pub_dialplate_pub_clientgolang_prometheus_V2), ("unicode/utf8.first", laid_unicode_utf8_first)], narrowed := true }
def FnCounterGrowsUptoSaid : Prop := fnCounterGrowsUptoRow.holds Tryz.pinned (OpenSpec.upto fnCounterGrowsSpec)

/-- 'laws.FnConstNative', WHERE WHAT IT READS IS OF BULK AT MOST 1048576: true; the input reads as it did. -/
def fnConstNativeUptoRow : OpenClaim := { program := "ytlolomodcbkblaagreatdoor", sum := "62877d9b293c2e0a826a9bc5f82532f5538262c924d0ca7f74924e83698c36ab", func := "pub-dialplate/laws.FnConstNative", spec := "fnConstNative", inPlace := ["internal/reflectlite.ValueOf", "internal/reflectlite.Swapper", "(internal/reflectlite.Value).Len"], unfollowed := true, recurses := true, named := ["pub-dialplate/pub/clientgolang/prometheus.V2", "pub-dialplate/pub/clientgolang/prometheus.separatorByteSlice", "unicode/utf8.first", "unicode/utf8.acceptRanges", "pub-dialplate/pub/clientgolang/prometheus.errInconsistentCardinality"], apart := false, laid := [("unicode/utf8.acceptRanges", laid_unicode_utf8_acceptRanges), ("pub-dialplate/pub/clientgolang/prometheus.errInconsistentCardinality", laid_pub_dialplate_pub_clientgolang_prometheus_errInconsistentCardinality), ("pub-dialplate/pub/clientgolang/prometheus.separatorByteSlice", laid_pub_dialplate_pub_clientgolang_prometheus_separatorByteSlice), ("pub-dialplate/pub/clientgolang/prometheus.V2", laid_pub_dialplate_pub_clientgolang_prometheus_V2), ("unicode/utf8.first", laid_unicode_utf8_first)], narrowed := true }
def FnConstNativeUptoSaid : Prop := fnConstNativeUptoRow.holds Tryz.pinned (OpenSpec.upto fnConstNativeSpec)

/-- 'laws.FnMarkedBuckets', WHERE WHAT IT READS IS OF BULK AT MOST 1048576: true; the input reads as it did. -/
def fnMarkedBucketsUptoRow : OpenClaim := { program := "ytlolomodcbkblaagreatdoor", sum := "62877d9b293c2e0a826a9bc5f82532f5538262c924d0ca7f74924e83698c36ab", func := "pub-dialplate/laws.FnMarkedBuckets", spec := "fnMarkedBuckets", inPlace := ["internal/reflectlite.ValueOf", "internal/reflectlite.Swapper", "(internal/reflectlite.Value).Len"], unfollowed := true, recurses := true, named := ["pub-dialplate/pub/clientgolang/prometheus.V2", "pub-dialplate/pub/clientgolang/prometheus.separatorByteSlice", "unicode/utf8.first", "unicode/utf8.acceptRanges", "pub-dialplate/pub/clientgolang/prometheus.errInconsistentCardinality"], apart := false, laid := [("unicode/utf8.acceptRanges", laid_unicode_utf8_acceptRanges), ("pub-dialplate/pub/clientgolang/prometheus.errInconsistentCardinality", laid_pub_dialplate_pub_clientgolang_prometheus_errInconsistentCardinality), ("pub-dialplate/pub/clientgolang/prometheus.separatorByteSlice", laid_pub_dialplate_pub_clientgolang_prometheus_separatorByteSlice), ("pub-dialplate/pub/clientgolang/prometheus.V2", laid_pub_dialplate_pub_clientgolang_prometheus_V2), ("unicode/utf8.first", laid_unicode_utf8_first)], narrowed := true }
def FnMarkedBucketsUptoSaid : Prop := fnMarkedBucketsUptoRow.holds Tryz.pinned (OpenSpec.upto fnMarkedBucketsSpec)

end Rows
end Go.Proofs.YtlolomodcbkblaaGreatDoor
