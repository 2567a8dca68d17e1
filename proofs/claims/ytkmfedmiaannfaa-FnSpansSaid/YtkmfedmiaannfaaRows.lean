/-
  No cell of these rows narrows 'for every input' (looked for: loops, veiled, ifaces, maps, wideKeys, modest, calm, conditions, laid).
  DERIVED. THE GIVEN ROWS OF THIS SEAT. 7 by the template 'for every input the law returns true; each argument reads behind the call as it read before'; 0 by the template 'total and deterministic' (their statements: YtkmfedmiaannfaaTotals.lean).
  GIVEN WITH THE SEED: the statements are not yours to turn. If you find one false, say at which input.
  Laid BY PROGRAM, IN A SANDBOX (cutbox-rows.mjs): the forced cells as the released guide's own fill.sh prints them over the translation e85305a292981e81… (all of the seat's roots in one cut). By AI agents, Wed Nov 11 2026. No macro, syntax, notation, axiom, sorry.
-/
import Derived.Test.YtkmfedmiaannfaaChecked
import GoSem.Claim
import GoSem.ClaimJoined
import GoSem.ClaimMapViews
import Derived.JoinedTies
import Derived.KernelRfl
namespace Go.Proofs.Ytkmfedmiaannfaa
/- THE CELL 'sum', in the pinned program and in every row, IS THE sha256 OF THE DUMP (.gsa) THAT YtkmfedmiaannfaaProg.lean LOADS. Nothing in Lean hashes anything: it is a label: what it is worth is what the hold of that sum in a sandbox is worth. -/
noncomputable def Try.pinned : Pinned := { name := "ytkmfedmiaannfaa", sum := "e85305a292981e81deba691c6bfe7cc8d4fa00442e3a9bc520f1e4c462e450a1", checked := Try.checked }
namespace Rows
def none {H : Type} : Left H := { results := [], args := [] }

/-- 'laws.FnAcceptRoads': WHATEVER THE INPUT: true; the input reads as it did. -/
def fnAcceptRoadsSpec : ChangeSpec := { name := "fnAcceptRoads", fn := fun _ => fun
  | [d1, d2] => { results := [.lit (.bool true)], args := [d1, d2] }
  | _ => none }
def fnAcceptRoadsRow : OpenClaim := { program := "ytkmfedmiaannfaa", sum := "e85305a292981e81deba691c6bfe7cc8d4fa00442e3a9bc520f1e4c462e450a1", func := "pub-dialplate/laws.FnAcceptRoads", spec := "fnAcceptRoads", apart := false }
def FnAcceptRoadsSaid : Prop := fnAcceptRoadsRow.holds Try.pinned (OpenSpec.ofChange fnAcceptRoadsSpec)

/-- ITS FALSE NEIGHBOUR: 'it returns false'. Refute it at one input. -/
def fnAcceptRoadsWrong : ChangeSpec := { name := "fnAcceptRoads", fn := fun _ => fun
  | [d1, d2] => { results := [.lit (.bool false)], args := [d1, d2] }
  | _ => none }
def FnAcceptRoadsWrongFalsely : Prop := fnAcceptRoadsRow.holds Try.pinned (OpenSpec.ofChange fnAcceptRoadsWrong)

/-- 'laws.FnRuntimeName': WHATEVER THE INPUT: true; the input reads as it did. -/
def fnRuntimeNameSpec : ChangeSpec := { name := "fnRuntimeName", fn := fun _ => fun
  | [d1, d2, d3, d4] => { results := [.lit (.bool true)], args := [d1, d2, d3, d4] }
  | _ => none }
def fnRuntimeNameRow : OpenClaim := { program := "ytkmfedmiaannfaa", sum := "e85305a292981e81deba691c6bfe7cc8d4fa00442e3a9bc520f1e4c462e450a1", func := "pub-dialplate/laws.FnRuntimeName", spec := "fnRuntimeName", apart := false }
def FnRuntimeNameSaid : Prop := fnRuntimeNameRow.holds Try.pinned (OpenSpec.ofChange fnRuntimeNameSpec)

/-- ITS FALSE NEIGHBOUR: 'it returns false'. Refute it at one input. -/
def fnRuntimeNameWrong : ChangeSpec := { name := "fnRuntimeName", fn := fun _ => fun
  | [d1, d2, d3, d4] => { results := [.lit (.bool false)], args := [d1, d2, d3, d4] }
  | _ => none }
def FnRuntimeNameWrongFalsely : Prop := fnRuntimeNameRow.holds Try.pinned (OpenSpec.ofChange fnRuntimeNameWrong)

/-- 'laws.FnDiffMatches': WHATEVER THE INPUT: true; the input reads as it did. -/
def fnDiffMatchesSpec : ChangeSpec := { name := "fnDiffMatches", fn := fun _ => fun
  | [d1, d2] => { results := [.lit (.bool true)], args := [d1, d2] }
  | _ => none }
def fnDiffMatchesRow : OpenClaim := { program := "ytkmfedmiaannfaa", sum := "e85305a292981e81deba691c6bfe7cc8d4fa00442e3a9bc520f1e4c462e450a1", func := "pub-dialplate/laws.FnDiffMatches", spec := "fnDiffMatches", unfollowed := true, recurses := true, apart := false }
def FnDiffMatchesSaid : Prop := fnDiffMatchesRow.holds Try.pinned (OpenSpec.ofChange fnDiffMatchesSpec)

/-- ITS FALSE NEIGHBOUR: 'it returns false'. Refute it at one input. -/
def fnDiffMatchesWrong : ChangeSpec := { name := "fnDiffMatches", fn := fun _ => fun
  | [d1, d2] => { results := [.lit (.bool false)], args := [d1, d2] }
  | _ => none }
def FnDiffMatchesWrongFalsely : Prop := fnDiffMatchesRow.holds Try.pinned (OpenSpec.ofChange fnDiffMatchesWrong)

/-- 'laws.FnDiffLines': WHATEVER THE INPUT: true; the input reads as it did. -/
def fnDiffLinesSpec : ChangeSpec := { name := "fnDiffLines", fn := fun _ => fun
  | [d] => { results := [.lit (.bool true)], args := [d] }
  | _ => none }
def fnDiffLinesRow : OpenClaim := { program := "ytkmfedmiaannfaa", sum := "e85305a292981e81deba691c6bfe7cc8d4fa00442e3a9bc520f1e4c462e450a1", func := "pub-dialplate/laws.FnDiffLines", spec := "fnDiffLines", unfollowed := true, recurses := true, apart := false }
def FnDiffLinesSaid : Prop := fnDiffLinesRow.holds Try.pinned (OpenSpec.ofChange fnDiffLinesSpec)

/-- ITS FALSE NEIGHBOUR: 'it returns false'. Refute it at one input. -/
def fnDiffLinesWrong : ChangeSpec := { name := "fnDiffLines", fn := fun _ => fun
  | [d] => { results := [.lit (.bool false)], args := [d] }
  | _ => none }
def FnDiffLinesWrongFalsely : Prop := fnDiffLinesRow.holds Try.pinned (OpenSpec.ofChange fnDiffLinesWrong)

/-- 'laws.FnDiffGroups': WHATEVER THE INPUT: true; the input reads as it did. -/
def fnDiffGroupsSpec : ChangeSpec := { name := "fnDiffGroups", fn := fun _ => fun
  | [d1, d2, d3] => { results := [.lit (.bool true)], args := [d1, d2, d3] }
  | _ => none }
def fnDiffGroupsRow : OpenClaim := { program := "ytkmfedmiaannfaa", sum := "e85305a292981e81deba691c6bfe7cc8d4fa00442e3a9bc520f1e4c462e450a1", func := "pub-dialplate/laws.FnDiffGroups", spec := "fnDiffGroups", unfollowed := true, recurses := true, apart := false }
def FnDiffGroupsSaid : Prop := fnDiffGroupsRow.holds Try.pinned (OpenSpec.ofChange fnDiffGroupsSpec)

/-- ITS FALSE NEIGHBOUR: 'it returns false'. Refute it at one input. -/
def fnDiffGroupsWrong : ChangeSpec := { name := "fnDiffGroups", fn := fun _ => fun
  | [d1, d2, d3] => { results := [.lit (.bool false)], args := [d1, d2, d3] }
  | _ => none }
def FnDiffGroupsWrongFalsely : Prop := fnDiffGroupsRow.holds Try.pinned (OpenSpec.ofChange fnDiffGroupsWrong)

/-- 'laws.FnEndpoint': WHATEVER THE INPUT: true; the input reads as it did. -/
def fnEndpointSpec : ChangeSpec := { name := "fnEndpoint", fn := fun _ => fun
  | [d1, d2, d3] => { results := [.lit (.bool true)], args := [d1, d2, d3] }
  | _ => none }
def fnEndpointRow : OpenClaim := { program := "ytkmfedmiaannfaa", sum := "e85305a292981e81deba691c6bfe7cc8d4fa00442e3a9bc520f1e4c462e450a1", func := "pub-dialplate/laws.FnEndpoint", spec := "fnEndpoint", inPlace := ["internal/abi.NoEscape", "internal/bytealg.MakeNoZero"], apart := false }
def FnEndpointSaid : Prop := fnEndpointRow.holds Try.pinned (OpenSpec.ofChange fnEndpointSpec)

/-- ITS FALSE NEIGHBOUR: 'it returns false'. Refute it at one input. -/
def fnEndpointWrong : ChangeSpec := { name := "fnEndpoint", fn := fun _ => fun
  | [d1, d2, d3] => { results := [.lit (.bool false)], args := [d1, d2, d3] }
  | _ => none }
def FnEndpointWrongFalsely : Prop := fnEndpointRow.holds Try.pinned (OpenSpec.ofChange fnEndpointWrong)

/-- 'laws.FnSpans': WHATEVER THE INPUT: true; the input reads as it did. -/
def fnSpansSpec : ChangeSpec := { name := "fnSpans", fn := fun _ => fun
  | [d] => { results := [.lit (.bool true)], args := [d] }
  | _ => none }
def fnSpansRow : OpenClaim := { program := "ytkmfedmiaannfaa", sum := "e85305a292981e81deba691c6bfe7cc8d4fa00442e3a9bc520f1e4c462e450a1", func := "pub-dialplate/laws.FnSpans", spec := "fnSpans", unfollowed := true, recurses := true, apart := false }
def FnSpansSaid : Prop := fnSpansRow.holds Try.pinned (OpenSpec.ofChange fnSpansSpec)

/-- ITS FALSE NEIGHBOUR: 'it returns false'. Refute it at one input. -/
def fnSpansWrong : ChangeSpec := { name := "fnSpans", fn := fun _ => fun
  | [d] => { results := [.lit (.bool false)], args := [d] }
  | _ => none }
def FnSpansWrongFalsely : Prop := fnSpansRow.holds Try.pinned (OpenSpec.ofChange fnSpansWrong)

/- THE SECOND FORM. 'bulk': how many values and letters a reading holds, each counted each time it is reached (what is shared counts as often as it is met; a slice's spare places count too). A statement '..UptoSaid' is the law's where the arguments, and the package variables that the reading takes, are together of bulk at most 1048576: NARROWER than '..Said'. Prove '..Said' where nothing that the law and all that it calls make is longer than what came in: it says more and counts as full. Else prove '..UptoSaid'. A law counts once. -/
mutual
def uptoBulk {H : Type} : DataW H → Nat
  | .lit (.string bytes) => bytes.length + 1
  | .lit _ => 1
  | .nil => 1
  | .ptr d => uptoBulk d + 1
  | .slice elems spare => uptoBulkAll elems + uptoBulkAll spare + 1
  | .agg parts => uptoBulkAll parts + 1
  | .iface _ d => uptoBulk d + 1
  | .map entries => uptoBulkEntries entries + 1
  | .held _ => 1
def uptoBulkAll {H : Type} : List (DataW H) → Nat
  | [] => 0
  | d :: r => uptoBulk d + uptoBulkAll r
def uptoBulkEntries {H : Type} : List (Lit × DataW H) → Nat
  | [] => 0
  | x :: r => uptoBulkEntry x + uptoBulkEntries r
def uptoBulkEntry {H : Type} : Lit × DataW H → Nat
  | (.string bytes, d) => bytes.length + uptoBulk d + 1
  | (_, d) => uptoBulk d + 1
 end
def uptoSmall : (H : Type) → List (DataW H) → Bool := fun _ ds => decide (uptoBulkAll ds ≤ 1048576)
def OpenSpec.upto (s : _root_.Go.ChangeSpec) : _root_.Go.OpenSpec := { _root_.Go.OpenSpec.ofChange s with cond := some uptoSmall }

/-- 'laws.FnAcceptRoads', WHERE WHAT IT READS IS OF BULK AT MOST 1048576: true; the input reads as it did. -/
def fnAcceptRoadsUptoRow : OpenClaim := { program := "ytkmfedmiaannfaa", sum := "e85305a292981e81deba691c6bfe7cc8d4fa00442e3a9bc520f1e4c462e450a1", func := "pub-dialplate/laws.FnAcceptRoads", spec := "fnAcceptRoads", apart := false, narrowed := true }
def FnAcceptRoadsUptoSaid : Prop := fnAcceptRoadsUptoRow.holds Try.pinned (OpenSpec.upto fnAcceptRoadsSpec)

/-- 'laws.FnRuntimeName', WHERE WHAT IT READS IS OF BULK AT MOST 1048576: true; the input reads as it did. -/
def fnRuntimeNameUptoRow : OpenClaim := { program := "ytkmfedmiaannfaa", sum := "e85305a292981e81deba691c6bfe7cc8d4fa00442e3a9bc520f1e4c462e450a1", func := "pub-dialplate/laws.FnRuntimeName", spec := "fnRuntimeName", apart := false, narrowed := true }
def FnRuntimeNameUptoSaid : Prop := fnRuntimeNameUptoRow.holds Try.pinned (OpenSpec.upto fnRuntimeNameSpec)

/-- 'laws.FnDiffMatches', WHERE WHAT IT READS IS OF BULK AT MOST 1048576: true; the input reads as it did. -/
def fnDiffMatchesUptoRow : OpenClaim := { program := "ytkmfedmiaannfaa", sum := "e85305a292981e81deba691c6bfe7cc8d4fa00442e3a9bc520f1e4c462e450a1", func := "pub-dialplate/laws.FnDiffMatches", spec := "fnDiffMatches", unfollowed := true, recurses := true, apart := false, narrowed := true }
def FnDiffMatchesUptoSaid : Prop := fnDiffMatchesUptoRow.holds Try.pinned (OpenSpec.upto fnDiffMatchesSpec)

/-- 'laws.FnDiffLines', WHERE WHAT IT READS IS OF BULK AT MOST 1048576: true; the input reads as it did. -/
def fnDiffLinesUptoRow : OpenClaim := { program := "ytkmfedmiaannfaa", sum := "e85305a292981e81deba691c6bfe7cc8d4fa00442e3a9bc520f1e4c462e450a1", func := "pub-dialplate/laws.FnDiffLines", spec := "fnDiffLines", unfollowed := true, recurses := true, apart := false, narrowed := true }
def FnDiffLinesUptoSaid : Prop := fnDiffLinesUptoRow.holds Try.pinned (OpenSpec.upto fnDiffLinesSpec)

/-- 'laws.FnDiffGroups', WHERE WHAT IT READS IS OF BULK AT MOST 1048576: true; the input reads as it did. -/
def fnDiffGroupsUptoRow : OpenClaim := { program := "ytkmfedmiaannfaa", sum := "e85305a292981e81deba691c6bfe7cc8d4fa00442e3a9bc520f1e4c462e450a1", func := "pub-dialplate/laws.FnDiffGroups", spec := "fnDiffGroups", unfollowed := true, recurses := true, apart := false, narrowed := true }
def FnDiffGroupsUptoSaid : Prop := fnDiffGroupsUptoRow.holds Try.pinned (OpenSpec.upto fnDiffGroupsSpec)

/-- 'laws.FnEndpoint', WHERE WHAT IT READS IS OF BULK AT MOST 1048576: true; the input reads as it did. -/
def fnEndpointUptoRow : OpenClaim := { program := "ytkmfedmiaannfaa", sum := "e85305a292981e81deba691c6bfe7cc8d4fa00442e3a9bc520f1e4c462e450a1", func := "pub-dialplate/laws.FnEndpoint", spec := "fnEndpoint", inPlace := ["internal/abi.NoEscape", "internal/bytealg.MakeNoZero"], apart := false, narrowed := true }
def FnEndpointUptoSaid : Prop := fnEndpointUptoRow.holds Try.pinned (OpenSpec.upto fnEndpointSpec)

/-- 'laws.FnSpans', WHERE WHAT IT READS IS OF BULK AT MOST 1048576: true; the input reads as it did. -/
def fnSpansUptoRow : OpenClaim := { program := "ytkmfedmiaannfaa", sum := "e85305a292981e81deba691c6bfe7cc8d4fa00442e3a9bc520f1e4c462e450a1", func := "pub-dialplate/laws.FnSpans", spec := "fnSpans", unfollowed := true, recurses := true, apart := false, narrowed := true }
def FnSpansUptoSaid : Prop := fnSpansUptoRow.holds Try.pinned (OpenSpec.upto fnSpansSpec)

end Rows
end Go.Proofs.Ytkmfedmiaannfaa
