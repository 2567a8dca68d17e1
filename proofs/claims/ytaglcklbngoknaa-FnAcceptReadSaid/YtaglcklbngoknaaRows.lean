/-
  No cell of these rows narrows 'for every input' (looked for: loops, veiled, ifaces, maps, wideKeys, modest, calm, conditions, laid).
  DERIVED. THE GIVEN ROWS OF THIS SEAT. 6 by the template 'for every input the law returns true; each argument reads behind the call as it read before'; 0 by the template 'total and deterministic' (their statements: YtaglcklbngoknaaTotals.lean).
  GIVEN WITH THE SEED: the statements are not yours to turn. If you find one false, say at which input.
  Laid BY PROGRAM, IN A SANDBOX (cutbox-rows.mjs): the forced cells as the released guide's own fill.sh prints them over the translation 90283b7fd7ac2cdc… (all of the seat's roots in one cut). By AI agents, Wed Nov 11 2026. No macro, syntax, notation, axiom, sorry.
-/
import Derived.Test.YtaglcklbngoknaaChecked
import GoSem.Claim
import GoSem.ClaimJoined
import GoSem.ClaimMapViews
import Derived.JoinedTies
import Derived.KernelRfl
namespace Go.Proofs.Ytaglcklbngoknaa
/- THE CELL 'sum', in the pinned program and in every row, IS THE sha256 OF THE DUMP (.gsa) THAT YtaglcklbngoknaaProg.lean LOADS. Nothing in Lean hashes anything: it is a label: what it is worth is what the hold of that sum in a sandbox is worth. -/
noncomputable def Try.pinned : Pinned := { name := "ytaglcklbngoknaa", sum := "90283b7fd7ac2cdcdb36477a9e4dd3f7afc1d0c61930a392f655cad8ac07617c", checked := Try.checked }
namespace Rows
def none {H : Type} : Left H := { results := [], args := [] }

/-- 'laws.FnFindBucket': WHATEVER THE INPUT: true; the input reads as it did. -/
def fnFindBucketSpec : ChangeSpec := { name := "fnFindBucket", fn := fun _ => fun
  | [d1, d2] => { results := [.lit (.bool true)], args := [d1, d2] }
  | _ => none }
def fnFindBucketRow : OpenClaim := { program := "ytaglcklbngoknaa", sum := "90283b7fd7ac2cdcdb36477a9e4dd3f7afc1d0c61930a392f655cad8ac07617c", func := "pub-dialplate/laws.FnFindBucket", spec := "fnFindBucket", unfollowed := true, recurses := true, apart := false }
def FnFindBucketSaid : Prop := fnFindBucketRow.holds Try.pinned (OpenSpec.ofChange fnFindBucketSpec)

/-- ITS FALSE NEIGHBOUR: 'it returns false'. Refute it at one input. -/
def fnFindBucketWrong : ChangeSpec := { name := "fnFindBucket", fn := fun _ => fun
  | [d1, d2] => { results := [.lit (.bool false)], args := [d1, d2] }
  | _ => none }
def FnFindBucketWrongFalsely : Prop := fnFindBucketRow.holds Try.pinned (OpenSpec.ofChange fnFindBucketWrong)

/-- 'laws.FnNameParts': WHATEVER THE INPUT: true; the input reads as it did. -/
def fnNamePartsSpec : ChangeSpec := { name := "fnNameParts", fn := fun _ => fun
  | [d1, d2, d3] => { results := [.lit (.bool true)], args := [d1, d2, d3] }
  | _ => none }
def fnNamePartsRow : OpenClaim := { program := "ytaglcklbngoknaa", sum := "90283b7fd7ac2cdcdb36477a9e4dd3f7afc1d0c61930a392f655cad8ac07617c", func := "pub-dialplate/laws.FnNameParts", spec := "fnNameParts", inPlace := ["internal/abi.NoEscape", "internal/bytealg.MakeNoZero"], apart := false }
def FnNamePartsSaid : Prop := fnNamePartsRow.holds Try.pinned (OpenSpec.ofChange fnNamePartsSpec)

/-- ITS FALSE NEIGHBOUR: 'it returns false'. Refute it at one input. -/
def fnNamePartsWrong : ChangeSpec := { name := "fnNameParts", fn := fun _ => fun
  | [d1, d2, d3] => { results := [.lit (.bool false)], args := [d1, d2, d3] }
  | _ => none }
def FnNamePartsWrongFalsely : Prop := fnNamePartsRow.holds Try.pinned (OpenSpec.ofChange fnNamePartsWrong)

/-- 'laws.FnAlmostEqual': WHATEVER THE INPUT: true; the input reads as it did. -/
def fnAlmostEqualSpec : ChangeSpec := { name := "fnAlmostEqual", fn := fun _ => fun
  | [d1, d2, d3, d4] => { results := [.lit (.bool true)], args := [d1, d2, d3, d4] }
  | _ => none }
def fnAlmostEqualRow : OpenClaim := { program := "ytaglcklbngoknaa", sum := "90283b7fd7ac2cdcdb36477a9e4dd3f7afc1d0c61930a392f655cad8ac07617c", func := "pub-dialplate/laws.FnAlmostEqual", spec := "fnAlmostEqual", inPlace := ["math.Float64bits", "math.Float64frombits", "math.archMin"], apart := false }
def FnAlmostEqualSaid : Prop := fnAlmostEqualRow.holds Try.pinned (OpenSpec.ofChange fnAlmostEqualSpec)

/-- ITS FALSE NEIGHBOUR: 'it returns false'. Refute it at one input. -/
def fnAlmostEqualWrong : ChangeSpec := { name := "fnAlmostEqual", fn := fun _ => fun
  | [d1, d2, d3, d4] => { results := [.lit (.bool false)], args := [d1, d2, d3, d4] }
  | _ => none }
def FnAlmostEqualWrongFalsely : Prop := fnAlmostEqualRow.holds Try.pinned (OpenSpec.ofChange fnAlmostEqualWrong)

/-- 'laws.FnReBucketKeeps': WHATEVER THE INPUT: true; the input reads as it did. -/
def fnReBucketKeepsSpec : ChangeSpec := { name := "fnReBucketKeeps", fn := fun _ => fun
  | [d1, d2, d3] => { results := [.lit (.bool true)], args := [d1, d2, d3] }
  | _ => none }
def fnReBucketKeepsRow : OpenClaim := { program := "ytaglcklbngoknaa", sum := "90283b7fd7ac2cdcdb36477a9e4dd3f7afc1d0c61930a392f655cad8ac07617c", func := "pub-dialplate/laws.FnReBucketKeeps", spec := "fnReBucketKeeps", inPlace := ["math.Float64frombits"], unfollowed := true, recurses := true, apart := false }
def FnReBucketKeepsSaid : Prop := fnReBucketKeepsRow.holds Try.pinned (OpenSpec.ofChange fnReBucketKeepsSpec)

/-- ITS FALSE NEIGHBOUR: 'it returns false'. Refute it at one input. -/
def fnReBucketKeepsWrong : ChangeSpec := { name := "fnReBucketKeeps", fn := fun _ => fun
  | [d1, d2, d3] => { results := [.lit (.bool false)], args := [d1, d2, d3] }
  | _ => none }
def FnReBucketKeepsWrongFalsely : Prop := fnReBucketKeepsRow.holds Try.pinned (OpenSpec.ofChange fnReBucketKeepsWrong)

/-- 'laws.FnSanitizedRight': WHATEVER THE INPUT: true; the input reads as it did. -/
def fnSanitizedRightSpec : ChangeSpec := { name := "fnSanitizedRight", fn := fun _ => fun
  | [d] => { results := [.lit (.bool true)], args := [d] }
  | _ => none }
def fnSanitizedRightRow : OpenClaim := { program := "ytaglcklbngoknaa", sum := "90283b7fd7ac2cdcdb36477a9e4dd3f7afc1d0c61930a392f655cad8ac07617c", func := "pub-dialplate/laws.FnSanitizedRight", spec := "fnSanitizedRight", inPlace := ["internal/abi.NoEscape"], apart := false }
def FnSanitizedRightSaid : Prop := fnSanitizedRightRow.holds Try.pinned (OpenSpec.ofChange fnSanitizedRightSpec)

/-- ITS FALSE NEIGHBOUR: 'it returns false'. Refute it at one input. -/
def fnSanitizedRightWrong : ChangeSpec := { name := "fnSanitizedRight", fn := fun _ => fun
  | [d] => { results := [.lit (.bool false)], args := [d] }
  | _ => none }
def FnSanitizedRightWrongFalsely : Prop := fnSanitizedRightRow.holds Try.pinned (OpenSpec.ofChange fnSanitizedRightWrong)

/-- 'laws.FnAcceptRead': WHATEVER THE INPUT: true; the input reads as it did. -/
def fnAcceptReadSpec : ChangeSpec := { name := "fnAcceptRead", fn := fun _ => fun
  | [d1, d2, d3] => { results := [.lit (.bool true)], args := [d1, d2, d3] }
  | _ => none }
def fnAcceptReadRow : OpenClaim := { program := "ytaglcklbngoknaa", sum := "90283b7fd7ac2cdcdb36477a9e4dd3f7afc1d0c61930a392f655cad8ac07617c", func := "pub-dialplate/laws.FnAcceptRead", spec := "fnAcceptRead", apart := false }
def FnAcceptReadSaid : Prop := fnAcceptReadRow.holds Try.pinned (OpenSpec.ofChange fnAcceptReadSpec)

/-- ITS FALSE NEIGHBOUR: 'it returns false'. Refute it at one input. -/
def fnAcceptReadWrong : ChangeSpec := { name := "fnAcceptRead", fn := fun _ => fun
  | [d1, d2, d3] => { results := [.lit (.bool false)], args := [d1, d2, d3] }
  | _ => none }
def FnAcceptReadWrongFalsely : Prop := fnAcceptReadRow.holds Try.pinned (OpenSpec.ofChange fnAcceptReadWrong)

/- THE SECOND FORM. 'bulk': how many values and letters a reading holds, each counted each time it is reached (what is shared counts as often as it is met; a slice's spare places count too). A statement '..UptoSaid' is the law's where the arguments, and the package variables that the reading takes, are together of bulk at most 1048576: NARROWER than '..Said'. Prove '..Said' where nothing that the law and all that it calls make is longer than what came in: it says more and counts as full. Else prove '..UptoSaid'. A law counts once. -/
mutual
def uptoBulk {H : Type} : DataW H → Nat
  | .lit (.string bytes) => bytes.length + 1
  | .lit _ => 1
  | .nil => 1
  | .ptr d => uptoBulk d + 1
  | .slice elems spare => uptoBulkAll elems + uptoBulkAll spare + 1
  | .agg parts => uptoBulkAll parts + 1
  | .iface _ d => uptoBulk d + 1
  | .map entries => uptoBulkEntries entries + 1
  | .held _ => 1
def uptoBulkAll {H : Type} : List (DataW H) → Nat
  | [] => 0
  | d :: r => uptoBulk d + uptoBulkAll r
def uptoBulkEntries {H : Type} : List (Lit × DataW H) → Nat
  | [] => 0
  | x :: r => uptoBulkEntry x + uptoBulkEntries r
def uptoBulkEntry {H : Type} : Lit × DataW H → Nat
  | (.string bytes, d) => bytes.length + uptoBulk d + 1
  | (_, d) => uptoBulk d + 1
 end
def uptoSmall : (H : Type) → List (DataW H) → Bool := fun _ ds => decide (uptoBulkAll ds ≤ 1048576)
def OpenSpec.upto (s : _root_.Go.ChangeSpec) : _root_.Go.OpenSpec := { _root_.Go.OpenSpec.ofChange s with cond := some uptoSmall }

/-- 'laws.FnFindBucket', WHERE WHAT IT READS IS OF BULK AT MOST 1048576: true; the input reads as it did. -/
def fnFindBucketUptoRow : OpenClaim := { program := "ytaglcklbngoknaa", sum := "90283b7fd7ac2cdcdb36477a9e4dd3f7afc1d0c61930a392f655cad8ac07617c", func := "pub-dialplate/laws.FnFindBucket", spec := "fnFindBucket", unfollowed := true, recurses := true, apart := false, narrowed := true }
def FnFindBucketUptoSaid : Prop := fnFindBucketUptoRow.holds Try.pinned (OpenSpec.upto fnFindBucketSpec)

/-- 'laws.FnNameParts', WHERE WHAT IT READS IS OF BULK AT MOST 1048576: true; the input reads as it did. -/
def fnNamePartsUptoRow : OpenClaim := { program := "ytaglcklbngoknaa", sum := "90283b7fd7ac2cdcdb36477a9e4dd3f7afc1d0c61930a392f655cad8ac07617c", func := "pub-dialplate/laws.FnNameParts", spec := "fnNameParts", inPlace := ["internal/abi.NoEscape", "internal/bytealg.MakeNoZero"], apart := false, narrowed := true }
def FnNamePartsUptoSaid : Prop := fnNamePartsUptoRow.holds Try.pinned (OpenSpec.upto fnNamePartsSpec)

/-- 'laws.FnAlmostEqual', WHERE WHAT IT READS IS OF BULK AT MOST 1048576: true; the input reads as it did. -/
def fnAlmostEqualUptoRow : OpenClaim := { program := "ytaglcklbngoknaa", sum := "90283b7fd7ac2cdcdb36477a9e4dd3f7afc1d0c61930a392f655cad8ac07617c", func := "pub-dialplate/laws.FnAlmostEqual", spec := "fnAlmostEqual", inPlace := ["math.Float64bits", "math.Float64frombits", "math.archMin"], apart := false, narrowed := true }
def FnAlmostEqualUptoSaid : Prop := fnAlmostEqualUptoRow.holds Try.pinned (OpenSpec.upto fnAlmostEqualSpec)

/-- 'laws.FnReBucketKeeps', WHERE WHAT IT READS IS OF BULK AT MOST 1048576: true; the input reads as it did. -/
def fnReBucketKeepsUptoRow : OpenClaim := { program := "ytaglcklbngoknaa", sum := "90283b7fd7ac2cdcdb36477a9e4dd3f7afc1d0c61930a392f655cad8ac07617c", func := "pub-dialplate/laws.FnReBucketKeeps", spec := "fnReBucketKeeps", inPlace := ["math.Float64frombits"], unfollowed := true, recurses := true, apart := false, narrowed := true }
def FnReBucketKeepsUptoSaid : Prop := fnReBucketKeepsUptoRow.holds Try.pinned (OpenSpec.upto fnReBucketKeepsSpec)

/-- 'laws.FnSanitizedRight', WHERE WHAT IT READS IS OF BULK AT MOST 1048576: true; the input reads as it did. -/
def fnSanitizedRightUptoRow : OpenClaim := { program := "ytaglcklbngoknaa", sum := "90283b7fd7ac2cdcdb36477a9e4dd3f7afc1d0c61930a392f655cad8ac07617c", func := "pub-dialplate/laws.FnSanitizedRight", spec := "fnSanitizedRight", inPlace := ["internal/abi.NoEscape"], apart := false, narrowed := true }
def FnSanitizedRightUptoSaid : Prop := fnSanitizedRightUptoRow.holds Try.pinned (OpenSpec.upto fnSanitizedRightSpec)

/-- 'laws.FnAcceptRead', WHERE WHAT IT READS IS OF BULK AT MOST 1048576: true; the input reads as it did. -/
def fnAcceptReadUptoRow : OpenClaim := { program := "ytaglcklbngoknaa", sum := "90283b7fd7ac2cdcdb36477a9e4dd3f7afc1d0c61930a392f655cad8ac07617c", func := "pub-dialplate/laws.FnAcceptRead", spec := "fnAcceptRead", apart := false, narrowed := true }
def FnAcceptReadUptoSaid : Prop := fnAcceptReadUptoRow.holds Try.pinned (OpenSpec.upto fnAcceptReadSpec)

end Rows
end Go.Proofs.Ytaglcklbngoknaa
