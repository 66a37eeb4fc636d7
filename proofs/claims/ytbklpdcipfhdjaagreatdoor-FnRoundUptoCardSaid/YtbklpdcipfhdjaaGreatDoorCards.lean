/-
  DERIVED. GIVEN WITH THE SEED: THE CARDS: each row of YtbklpdcipfhdjaaGreatDoorRows.lean that lists a variable, with what it lists TIED to the program's text (the seventh form; the later family's looks); each row that meets fmt, with fmt's text TOLD by the authors' own Lean function (tested against real Go, not proved from fmt's source: count such statements apart). THE CARD IS WHAT COUNTS. Prove the row's statement (the work); the ties are given (YtbklpdcipfhdjaaGreatDoorTie.lean); close each card by the builder's one call (the guide's Derived/Test/ToyasCard.lean, 'card_holds'). Laid BY PROGRAM, IN A SANDBOX (cutbox-door.mjs). By AI agents, Wed Nov 11 2026. No macro, syntax, notation, axiom, sorry.
-/
import Derived.Test.YtbklpdcipfhdjaaGreatDoorRows
import GoSem.ClaimSeven
namespace Go.Proofs.YtbklpdcipfhdjaaGreatDoor
namespace Rows

/-- THE TIED CARD OF 'laws.FnNoValue'. -/
def fnNoValueCard : Claim7 := { stood := { row := fnNoValueRow, standIns := [], harness := (true, "14fba9201a1763cb3c61a19e85f6724441a674cf21949f2d0e1e005afca77597"), looks := true }, kinds := [], alts := [], laidByText := true, laidKinds := [.data, .data, .data, .data, .listed, .data, .sentinel, .sentinel, .sentinel, .sentinel, .sentinel, .sentinel, .pinned, .pinned], laidTests := true, laidLooks := .later }
def FnNoValueCardSaid : Prop := Claim7.holds Tryz.pinned (.plain (OpenSpec.ofChange fnNoValueSpec)) fnNoValueCard

/-- THE TIED CARD OF 'laws.FnOpen'. -/
def fnOpenCard : Claim7 := { stood := { row := fnOpenRow, standIns := [], harness := (true, "14fba9201a1763cb3c61a19e85f6724441a674cf21949f2d0e1e005afca77597"), looks := true }, kinds := [], alts := [], laidByText := true, laidKinds := [.data, .data, .data, .data, .listed, .data, .sentinel, .sentinel, .sentinel, .sentinel, .sentinel, .sentinel, .pinned, .pinned], laidTests := true, laidLooks := .later }
def FnOpenCardSaid : Prop := Claim7.holds Tryz.pinned (.plain (OpenSpec.ofChange fnOpenSpec)) fnOpenCard

/-- THE TIED CARD OF 'laws.FnContinuedExtended'. -/
def fnContinuedExtendedCard : Claim7 := { stood := { row := fnContinuedExtendedRow, standIns := [], harness := (true, "14fba9201a1763cb3c61a19e85f6724441a674cf21949f2d0e1e005afca77597"), looks := true }, kinds := [], alts := [], laidByText := true, laidKinds := [.data, .data, .data, .data, .listed, .data, .sentinel, .sentinel, .sentinel, .sentinel, .sentinel, .sentinel, .pinned, .pinned], laidTests := true, laidLooks := .later }
def FnContinuedExtendedCardSaid : Prop := Claim7.holds Tryz.pinned (.plain (OpenSpec.ofChange fnContinuedExtendedSpec)) fnContinuedExtendedCard

/-- THE TIED CARD OF 'laws.FnContinued'. -/
def fnContinuedCard : Claim7 := { stood := { row := fnContinuedRow, standIns := [], harness := (true, "14fba9201a1763cb3c61a19e85f6724441a674cf21949f2d0e1e005afca77597"), looks := true }, kinds := [], alts := [], laidByText := true, laidKinds := [.data, .data, .data, .data, .listed, .data, .sentinel, .sentinel, .sentinel, .sentinel, .sentinel, .sentinel, .pinned, .pinned], laidTests := true, laidLooks := .later }
def FnContinuedCardSaid : Prop := Claim7.holds Tryz.pinned (.plain (OpenSpec.ofChange fnContinuedSpec)) fnContinuedCard

/-- THE TIED CARD OF 'laws.FnExactParse'. -/
def fnExactParseCard : Claim7 := { stood := { row := fnExactParseRow, standIns := [], harness := (true, "14fba9201a1763cb3c61a19e85f6724441a674cf21949f2d0e1e005afca77597"), looks := true }, kinds := [], alts := [], laidByText := true, laidKinds := [.data, .data, .data, .data, .listed, .data, .sentinel, .sentinel, .sentinel, .sentinel, .sentinel, .sentinel, .pinned, .pinned], laidTests := true, laidLooks := .later }
def FnExactParseCardSaid : Prop := Claim7.holds Tryz.pinned (.plain (OpenSpec.ofChange fnExactParseSpec)) fnExactParseCard

/-- THE TIED CARD OF 'laws.FnTrailing'. -/
def fnTrailingCard : Claim7 := { stood := { row := fnTrailingRow, standIns := [], harness := (true, "14fba9201a1763cb3c61a19e85f6724441a674cf21949f2d0e1e005afca77597"), looks := true }, kinds := [], alts := [], laidByText := true, laidKinds := [.data, .data, .data, .data, .listed, .data, .sentinel, .sentinel, .sentinel, .sentinel, .sentinel, .sentinel, .pinned, .pinned], laidTests := true, laidLooks := .later }
def FnTrailingCardSaid : Prop := Claim7.holds Tryz.pinned (.plain (OpenSpec.ofChange fnTrailingSpec)) fnTrailingCard

/-- THE TIED CARD OF 'laws.FnRound'. -/
def fnRoundCard : Claim7 := { stood := { row := fnRoundRow, standIns := [], harness := (true, "14fba9201a1763cb3c61a19e85f6724441a674cf21949f2d0e1e005afca77597"), looks := true }, kinds := [], alts := [], laidByText := true, laidKinds := [.data, .data, .data, .data, .listed, .data, .sentinel, .sentinel, .sentinel, .sentinel, .sentinel, .sentinel, .pinned, .pinned], laidTests := true, laidLooks := .later }
def FnRoundCardSaid : Prop := Claim7.holds Tryz.pinned (.plain (OpenSpec.ofChange fnRoundSpec)) fnRoundCard

/-- THE SECOND FORM's CARD OF 'laws.FnNoValue'. -/
def fnNoValueUptoCard : Claim7 := { stood := { row := fnNoValueUptoRow, standIns := [], harness := (true, "14fba9201a1763cb3c61a19e85f6724441a674cf21949f2d0e1e005afca77597"), looks := true }, kinds := [], alts := [], laidByText := true, laidKinds := [.data, .data, .data, .data, .listed, .data, .sentinel, .sentinel, .sentinel, .sentinel, .sentinel, .sentinel, .pinned, .pinned], laidTests := true, laidLooks := .later }
def FnNoValueUptoCardSaid : Prop := Claim7.holds Tryz.pinned (.plain (OpenSpec.upto fnNoValueSpec)) fnNoValueUptoCard

/-- THE SECOND FORM's CARD OF 'laws.FnOpen'. -/
def fnOpenUptoCard : Claim7 := { stood := { row := fnOpenUptoRow, standIns := [], harness := (true, "14fba9201a1763cb3c61a19e85f6724441a674cf21949f2d0e1e005afca77597"), looks := true }, kinds := [], alts := [], laidByText := true, laidKinds := [.data, .data, .data, .data, .listed, .data, .sentinel, .sentinel, .sentinel, .sentinel, .sentinel, .sentinel, .pinned, .pinned], laidTests := true, laidLooks := .later }
def FnOpenUptoCardSaid : Prop := Claim7.holds Tryz.pinned (.plain (OpenSpec.upto fnOpenSpec)) fnOpenUptoCard

/-- THE SECOND FORM's CARD OF 'laws.FnContinuedExtended'. -/
def fnContinuedExtendedUptoCard : Claim7 := { stood := { row := fnContinuedExtendedUptoRow, standIns := [], harness := (true, "14fba9201a1763cb3c61a19e85f6724441a674cf21949f2d0e1e005afca77597"), looks := true }, kinds := [], alts := [], laidByText := true, laidKinds := [.data, .data, .data, .data, .listed, .data, .sentinel, .sentinel, .sentinel, .sentinel, .sentinel, .sentinel, .pinned, .pinned], laidTests := true, laidLooks := .later }
def FnContinuedExtendedUptoCardSaid : Prop := Claim7.holds Tryz.pinned (.plain (OpenSpec.upto fnContinuedExtendedSpec)) fnContinuedExtendedUptoCard

/-- THE SECOND FORM's CARD OF 'laws.FnContinued'. -/
def fnContinuedUptoCard : Claim7 := { stood := { row := fnContinuedUptoRow, standIns := [], harness := (true, "14fba9201a1763cb3c61a19e85f6724441a674cf21949f2d0e1e005afca77597"), looks := true }, kinds := [], alts := [], laidByText := true, laidKinds := [.data, .data, .data, .data, .listed, .data, .sentinel, .sentinel, .sentinel, .sentinel, .sentinel, .sentinel, .pinned, .pinned], laidTests := true, laidLooks := .later }
def FnContinuedUptoCardSaid : Prop := Claim7.holds Tryz.pinned (.plain (OpenSpec.upto fnContinuedSpec)) fnContinuedUptoCard

/-- THE SECOND FORM's CARD OF 'laws.FnExactParse'. -/
def fnExactParseUptoCard : Claim7 := { stood := { row := fnExactParseUptoRow, standIns := [], harness := (true, "14fba9201a1763cb3c61a19e85f6724441a674cf21949f2d0e1e005afca77597"), looks := true }, kinds := [], alts := [], laidByText := true, laidKinds := [.data, .data, .data, .data, .listed, .data, .sentinel, .sentinel, .sentinel, .sentinel, .sentinel, .sentinel, .pinned, .pinned], laidTests := true, laidLooks := .later }
def FnExactParseUptoCardSaid : Prop := Claim7.holds Tryz.pinned (.plain (OpenSpec.upto fnExactParseSpec)) fnExactParseUptoCard

/-- THE SECOND FORM's CARD OF 'laws.FnTrailing'. -/
def fnTrailingUptoCard : Claim7 := { stood := { row := fnTrailingUptoRow, standIns := [], harness := (true, "14fba9201a1763cb3c61a19e85f6724441a674cf21949f2d0e1e005afca77597"), looks := true }, kinds := [], alts := [], laidByText := true, laidKinds := [.data, .data, .data, .data, .listed, .data, .sentinel, .sentinel, .sentinel, .sentinel, .sentinel, .sentinel, .pinned, .pinned], laidTests := true, laidLooks := .later }
def FnTrailingUptoCardSaid : Prop := Claim7.holds Tryz.pinned (.plain (OpenSpec.upto fnTrailingSpec)) fnTrailingUptoCard

/-- THE SECOND FORM's CARD OF 'laws.FnRound'. -/
def fnRoundUptoCard : Claim7 := { stood := { row := fnRoundUptoRow, standIns := [], harness := (true, "14fba9201a1763cb3c61a19e85f6724441a674cf21949f2d0e1e005afca77597"), looks := true }, kinds := [], alts := [], laidByText := true, laidKinds := [.data, .data, .data, .data, .listed, .data, .sentinel, .sentinel, .sentinel, .sentinel, .sentinel, .sentinel, .pinned, .pinned], laidTests := true, laidLooks := .later }
def FnRoundUptoCardSaid : Prop := Claim7.holds Tryz.pinned (.plain (OpenSpec.upto fnRoundSpec)) fnRoundUptoCard
end Rows
end Go.Proofs.YtbklpdcipfhdjaaGreatDoor
