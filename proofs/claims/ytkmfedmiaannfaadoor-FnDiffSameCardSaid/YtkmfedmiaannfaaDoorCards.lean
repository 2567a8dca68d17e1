/-
  DERIVED. GIVEN WITH THE SEED: THE CARDS: each row of YtkmfedmiaannfaaDoorRows.lean that lists a variable, with what it lists TIED to the program's text (the seventh form; the later family's looks); each row that meets fmt, with fmt's text TOLD by the authors' own Lean function (tested against real Go, not proved from fmt's source: count such statements apart). THE CARD IS WHAT COUNTS. Prove the row's statement (the work); the ties are given (YtkmfedmiaannfaaDoorTie.lean); close each card by the builder's one call (the guide's Derived/Test/ToyasCard.lean, 'card_holds'). Laid BY PROGRAM, IN A SANDBOX (cutbox-door.mjs). By AI agents, Wed Nov 11 2026. No macro, syntax, notation, axiom, sorry.
-/
import Derived.Test.YtkmfedmiaannfaaDoorRows
import GoSem.ClaimSeven
namespace Go.Proofs.YtkmfedmiaannfaaDoor
namespace Rows

/-- THE TIED CARD OF 'laws.FnDiffSame'. -/
def fnDiffSameCard : Claim7 := { stood := { row := fnDiffSameRow, standIns := [], harness := (true, "8dc7e138194eb8d44b1be740234f3317f1a38057ef69521cc53d955ced490a37"), looks := false }, kinds := [], alts := [], laidByText := true, laidKinds := [.data, .data, .data], laidTests := true, laidLooks := .later }
def FnDiffSameCardSaid : Prop := Claim7.holds Tryd.pinned (.plain (OpenSpec.ofChange fnDiffSameSpec)) fnDiffSameCard

/-- THE SECOND FORM's CARD OF 'laws.FnDiffSame'. -/
def fnDiffSameUptoCard : Claim7 := { stood := { row := fnDiffSameUptoRow, standIns := [], harness := (true, "8dc7e138194eb8d44b1be740234f3317f1a38057ef69521cc53d955ced490a37"), looks := false }, kinds := [], alts := [], laidByText := true, laidKinds := [.data, .data, .data], laidTests := true, laidLooks := .later }
def FnDiffSameUptoCardSaid : Prop := Claim7.holds Tryd.pinned (.plain (OpenSpec.upto fnDiffSameSpec)) fnDiffSameUptoCard
end Rows
end Go.Proofs.YtkmfedmiaannfaaDoor
