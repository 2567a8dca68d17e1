/-
  DERIVED. GIVEN WITH THE SEED: THE CARDS: each row of YtlolomodcbkblaaGreatDoorRows.lean that lists a variable, with what it lists TIED to the program's text (the seventh form; the later family's looks); each row that meets fmt, with fmt's text TOLD by the authors' own Lean function (tested against real Go, not proved from fmt's source: count such statements apart). THE CARD IS WHAT COUNTS. Prove the row's statement (the work); the ties are given (YtlolomodcbkblaaGreatDoorTie.lean); close each card by the builder's one call (the guide's Derived/Test/ToyasCard.lean, 'card_holds'). Laid BY PROGRAM, IN A SANDBOX (cutbox-door.mjs). By AI agents, Wed Nov 11 2026. No macro, syntax, notation, axiom, sorry.
-/
import Derived.Test.YtlolomodcbkblaaGreatDoorRows
import GoSem.ClaimSeven
namespace Go.Proofs.YtlolomodcbkblaaGreatDoor
namespace Rows

/-- THE TIED CARD OF 'laws.FnGaugeRun'. -/
def fnGaugeRunCard : Claim7 := { stood := { row := fnGaugeRunRow, standIns := [], harness := (true, "964d001eec1879679eb54f9abb0630298255696c14a9ffcfde28cbf82a85eb8f"), looks := true }, kinds := [], alts := [], laidByText := true, laidKinds := [.data, .sentinel, .widerDeep, .wider, .pinned], laidTests := true, laidLooks := .later }
def FnGaugeRunCardSaid : Prop := Claim7.holds Tryz.pinned (.plain (OpenSpec.ofChange fnGaugeRunSpec)) fnGaugeRunCard

/-- THE TIED CARD OF 'laws.FnCounterGrows'. -/
def fnCounterGrowsCard : Claim7 := { stood := { row := fnCounterGrowsRow, standIns := [], harness := (true, "964d001eec1879679eb54f9abb0630298255696c14a9ffcfde28cbf82a85eb8f"), looks := true }, kinds := [], alts := [], laidByText := true, laidKinds := [.data, .sentinel, .widerDeep, .wider, .pinned], laidTests := true, laidLooks := .later }
def FnCounterGrowsCardSaid : Prop := Claim7.holds Tryz.pinned (.plain (OpenSpec.ofChange fnCounterGrowsSpec)) fnCounterGrowsCard

/-- THE TIED CARD OF 'laws.FnConstNative'. -/
def fnConstNativeCard : Claim7 := { stood := { row := fnConstNativeRow, standIns := [], harness := (true, "964d001eec1879679eb54f9abb0630298255696c14a9ffcfde28cbf82a85eb8f"), looks := true }, kinds := [], alts := [], laidByText := true, laidKinds := [.data, .sentinel, .widerDeep, .wider, .pinned], laidTests := true, laidLooks := .later }
def FnConstNativeCardSaid : Prop := Claim7.holds Tryz.pinned (.plain (OpenSpec.ofChange fnConstNativeSpec)) fnConstNativeCard

/-- THE TIED CARD OF 'laws.FnMarkedBuckets'. -/
def fnMarkedBucketsCard : Claim7 := { stood := { row := fnMarkedBucketsRow, standIns := [], harness := (true, "964d001eec1879679eb54f9abb0630298255696c14a9ffcfde28cbf82a85eb8f"), looks := true }, kinds := [], alts := [], laidByText := true, laidKinds := [.data, .sentinel, .widerDeep, .wider, .pinned], laidTests := true, laidLooks := .later }
def FnMarkedBucketsCardSaid : Prop := Claim7.holds Tryz.pinned (.plain (OpenSpec.ofChange fnMarkedBucketsSpec)) fnMarkedBucketsCard

/-- THE SECOND FORM's CARD OF 'laws.FnGaugeRun'. -/
def fnGaugeRunUptoCard : Claim7 := { stood := { row := fnGaugeRunUptoRow, standIns := [], harness := (true, "964d001eec1879679eb54f9abb0630298255696c14a9ffcfde28cbf82a85eb8f"), looks := true }, kinds := [], alts := [], laidByText := true, laidKinds := [.data, .sentinel, .widerDeep, .wider, .pinned], laidTests := true, laidLooks := .later }
def FnGaugeRunUptoCardSaid : Prop := Claim7.holds Tryz.pinned (.plain (OpenSpec.upto fnGaugeRunSpec)) fnGaugeRunUptoCard

/-- THE SECOND FORM's CARD OF 'laws.FnCounterGrows'. -/
def fnCounterGrowsUptoCard : Claim7 := { stood := { row := fnCounterGrowsUptoRow, standIns := [], harness := (true, "964d001eec1879679eb54f9abb0630298255696c14a9ffcfde28cbf82a85eb8f"), looks := true }, kinds := [], alts := [], laidByText := true, laidKinds := [.data, .sentinel, .widerDeep, .wider, .pinned], laidTests := true, laidLooks := .later }
def FnCounterGrowsUptoCardSaid : Prop := Claim7.holds Tryz.pinned (.plain (OpenSpec.upto fnCounterGrowsSpec)) fnCounterGrowsUptoCard

/-- THE SECOND FORM's CARD OF 'laws.FnConstNative'. -/
def fnConstNativeUptoCard : Claim7 := { stood := { row := fnConstNativeUptoRow, standIns := [], harness := (true, "964d001eec1879679eb54f9abb0630298255696c14a9ffcfde28cbf82a85eb8f"), looks := true }, kinds := [], alts := [], laidByText := true, laidKinds := [.data, .sentinel, .widerDeep, .wider, .pinned], laidTests := true, laidLooks := .later }
def FnConstNativeUptoCardSaid : Prop := Claim7.holds Tryz.pinned (.plain (OpenSpec.upto fnConstNativeSpec)) fnConstNativeUptoCard

/-- THE SECOND FORM's CARD OF 'laws.FnMarkedBuckets'. -/
def fnMarkedBucketsUptoCard : Claim7 := { stood := { row := fnMarkedBucketsUptoRow, standIns := [], harness := (true, "964d001eec1879679eb54f9abb0630298255696c14a9ffcfde28cbf82a85eb8f"), looks := true }, kinds := [], alts := [], laidByText := true, laidKinds := [.data, .sentinel, .widerDeep, .wider, .pinned], laidTests := true, laidLooks := .later }
def FnMarkedBucketsUptoCardSaid : Prop := Claim7.holds Tryz.pinned (.plain (OpenSpec.upto fnMarkedBucketsSpec)) fnMarkedBucketsUptoCard
end Rows
end Go.Proofs.YtlolomodcbkblaaGreatDoor
