/-
  DERIVED. GIVEN WITH THE SEED: THE CARDS: each row of YtfcpapbokefdmaaGreatDoorRows.lean that lists a variable, with what it lists TIED to the program's text (the seventh form; the later family's looks); each row that meets fmt, with fmt's text TOLD by the authors' own Lean function (tested against real Go, not proved from fmt's source: count such statements apart). THE CARD IS WHAT COUNTS. Prove the row's statement (the work); the ties are given (YtfcpapbokefdmaaGreatDoorTie.lean); close each card by the builder's one call (the guide's Derived/Test/ToyasCard.lean, 'card_holds'). Laid BY PROGRAM, IN A SANDBOX (cutbox-door.mjs). By AI agents, Wed Nov 11 2026. No macro, syntax, notation, axiom, sorry.
-/
import Derived.Test.YtfcpapbokefdmaaGreatDoorRows
import GoSem.ClaimSeven
namespace Go.Proofs.YtfcpapbokefdmaaGreatDoor
namespace Rows

/-- THE TIED CARD OF 'laws.FnMetaSame'. -/
def fnMetaSameCard : Claim7 := { stood := { row := fnMetaSameRow, standIns := [], harness := (true, "6d150146704966600e330f740873355c93f89bc51990346fdb5a271da16a3111"), looks := false }, kinds := [], alts := [], laidByText := true, laidKinds := [.data, .sentinel, .widerDeep, .wider, .pinned], laidTests := true, laidLooks := .later }
def FnMetaSameCardSaid : Prop := Claim7.holds Tryz.pinned (.plain (OpenSpec.ofChange fnMetaSameSpec)) fnMetaSameCard

/-- THE TIED CARD OF 'laws.FnLabelTurned'. -/
def fnLabelTurnedCard : Claim7 := { stood := { row := fnLabelTurnedRow, standIns := [], harness := (true, "6d150146704966600e330f740873355c93f89bc51990346fdb5a271da16a3111"), looks := false }, kinds := [], alts := [], laidByText := true, laidKinds := [.data, .sentinel, .widerDeep, .wider, .pinned], laidTests := true, laidLooks := .later }
def FnLabelTurnedCardSaid : Prop := Claim7.holds Tryz.pinned (.plain (OpenSpec.ofChange fnLabelTurnedSpec)) fnLabelTurnedCard

/-- THE TIED CARD OF 'laws.FnWrapTwice'. -/
def fnWrapTwiceCard : Claim7 := { stood := { row := fnWrapTwiceRow, standIns := [], harness := (true, "6d150146704966600e330f740873355c93f89bc51990346fdb5a271da16a3111"), looks := false }, kinds := [], alts := [], laidByText := true, laidKinds := [.data, .sentinel, .widerDeep, .wider, .pinned], laidTests := true, laidLooks := .later }
def FnWrapTwiceCardSaid : Prop := Claim7.holds Tryz.pinned (.plain (OpenSpec.ofChange fnWrapTwiceSpec)) fnWrapTwiceCard

/-- THE TIED CARD OF 'laws.FnMetaText'. -/
def fnMetaTextCard : Claim7 := { stood := { row := fnMetaTextRow, standIns := [], harness := (true, "6d150146704966600e330f740873355c93f89bc51990346fdb5a271da16a3111"), looks := false }, kinds := [], alts := [], laidByText := true, laidKinds := [.data, .sentinel, .widerDeep, .wider, .pinned, .pinned, .pinned, .pinned, .pinned, .pinned], laidTests := true, laidLooks := .later }
def FnMetaTextCardSaid : Prop := Claim7.holds Tryz.pinned (.plain (OpenSpec.ofChange fnMetaTextSpec)) fnMetaTextCard

/-- THE TIED CARD OF 'laws.FnConst'. -/
def fnConstCard : Claim7 := { stood := { row := fnConstRow, standIns := [], harness := (true, "6d150146704966600e330f740873355c93f89bc51990346fdb5a271da16a3111"), looks := false }, kinds := [], alts := [], laidByText := true, laidKinds := [.data, .sentinel, .widerDeep, .wider, .pinned], laidTests := true, laidLooks := .later }
def FnConstCardSaid : Prop := Claim7.holds Tryz.pinned (.plain (OpenSpec.ofChange fnConstSpec)) fnConstCard

/-- THE TIED CARD OF 'laws.FnConstDated'. -/
def fnConstDatedCard : Claim7 := { stood := { row := fnConstDatedRow, standIns := [], harness := (true, "6d150146704966600e330f740873355c93f89bc51990346fdb5a271da16a3111"), looks := false }, kinds := [], alts := [], laidByText := true, laidKinds := [.data, .sentinel, .widerDeep, .wider, .pinned], laidTests := true, laidLooks := .later }
def FnConstDatedCardSaid : Prop := Claim7.holds Tryz.pinned (.plain (OpenSpec.ofChange fnConstDatedSpec)) fnConstDatedCard

/-- THE TIED CARD OF 'laws.FnStamped'. -/
def fnStampedCard : Claim7 := { stood := { row := fnStampedRow, standIns := [], harness := (true, "6d150146704966600e330f740873355c93f89bc51990346fdb5a271da16a3111"), looks := false }, kinds := [], alts := [], laidByText := true, laidKinds := [.data, .sentinel, .widerDeep, .wider, .pinned], laidTests := true, laidLooks := .later }
def FnStampedCardSaid : Prop := Claim7.holds Tryz.pinned (.plain (OpenSpec.ofChange fnStampedSpec)) fnStampedCard

/-- THE SECOND FORM's CARD OF 'laws.FnMetaSame'. -/
def fnMetaSameUptoCard : Claim7 := { stood := { row := fnMetaSameUptoRow, standIns := [], harness := (true, "6d150146704966600e330f740873355c93f89bc51990346fdb5a271da16a3111"), looks := false }, kinds := [], alts := [], laidByText := true, laidKinds := [.data, .sentinel, .widerDeep, .wider, .pinned], laidTests := true, laidLooks := .later }
def FnMetaSameUptoCardSaid : Prop := Claim7.holds Tryz.pinned (.plain (OpenSpec.upto fnMetaSameSpec)) fnMetaSameUptoCard

/-- THE SECOND FORM's CARD OF 'laws.FnLabelTurned'. -/
def fnLabelTurnedUptoCard : Claim7 := { stood := { row := fnLabelTurnedUptoRow, standIns := [], harness := (true, "6d150146704966600e330f740873355c93f89bc51990346fdb5a271da16a3111"), looks := false }, kinds := [], alts := [], laidByText := true, laidKinds := [.data, .sentinel, .widerDeep, .wider, .pinned], laidTests := true, laidLooks := .later }
def FnLabelTurnedUptoCardSaid : Prop := Claim7.holds Tryz.pinned (.plain (OpenSpec.upto fnLabelTurnedSpec)) fnLabelTurnedUptoCard

/-- THE SECOND FORM's CARD OF 'laws.FnWrapTwice'. -/
def fnWrapTwiceUptoCard : Claim7 := { stood := { row := fnWrapTwiceUptoRow, standIns := [], harness := (true, "6d150146704966600e330f740873355c93f89bc51990346fdb5a271da16a3111"), looks := false }, kinds := [], alts := [], laidByText := true, laidKinds := [.data, .sentinel, .widerDeep, .wider, .pinned], laidTests := true, laidLooks := .later }
def FnWrapTwiceUptoCardSaid : Prop := Claim7.holds Tryz.pinned (.plain (OpenSpec.upto fnWrapTwiceSpec)) fnWrapTwiceUptoCard

/-- THE SECOND FORM's CARD OF 'laws.FnMetaText'. -/
def fnMetaTextUptoCard : Claim7 := { stood := { row := fnMetaTextUptoRow, standIns := [], harness := (true, "6d150146704966600e330f740873355c93f89bc51990346fdb5a271da16a3111"), looks := false }, kinds := [], alts := [], laidByText := true, laidKinds := [.data, .sentinel, .widerDeep, .wider, .pinned, .pinned, .pinned, .pinned, .pinned, .pinned], laidTests := true, laidLooks := .later }
def FnMetaTextUptoCardSaid : Prop := Claim7.holds Tryz.pinned (.plain (OpenSpec.upto fnMetaTextSpec)) fnMetaTextUptoCard

/-- THE SECOND FORM's CARD OF 'laws.FnConst'. -/
def fnConstUptoCard : Claim7 := { stood := { row := fnConstUptoRow, standIns := [], harness := (true, "6d150146704966600e330f740873355c93f89bc51990346fdb5a271da16a3111"), looks := false }, kinds := [], alts := [], laidByText := true, laidKinds := [.data, .sentinel, .widerDeep, .wider, .pinned], laidTests := true, laidLooks := .later }
def FnConstUptoCardSaid : Prop := Claim7.holds Tryz.pinned (.plain (OpenSpec.upto fnConstSpec)) fnConstUptoCard

/-- THE SECOND FORM's CARD OF 'laws.FnConstDated'. -/
def fnConstDatedUptoCard : Claim7 := { stood := { row := fnConstDatedUptoRow, standIns := [], harness := (true, "6d150146704966600e330f740873355c93f89bc51990346fdb5a271da16a3111"), looks := false }, kinds := [], alts := [], laidByText := true, laidKinds := [.data, .sentinel, .widerDeep, .wider, .pinned], laidTests := true, laidLooks := .later }
def FnConstDatedUptoCardSaid : Prop := Claim7.holds Tryz.pinned (.plain (OpenSpec.upto fnConstDatedSpec)) fnConstDatedUptoCard

/-- THE SECOND FORM's CARD OF 'laws.FnStamped'. -/
def fnStampedUptoCard : Claim7 := { stood := { row := fnStampedUptoRow, standIns := [], harness := (true, "6d150146704966600e330f740873355c93f89bc51990346fdb5a271da16a3111"), looks := false }, kinds := [], alts := [], laidByText := true, laidKinds := [.data, .sentinel, .widerDeep, .wider, .pinned], laidTests := true, laidLooks := .later }
def FnStampedUptoCardSaid : Prop := Claim7.holds Tryz.pinned (.plain (OpenSpec.upto fnStampedSpec)) fnStampedUptoCard
end Rows
end Go.Proofs.YtfcpapbokefdmaaGreatDoor
