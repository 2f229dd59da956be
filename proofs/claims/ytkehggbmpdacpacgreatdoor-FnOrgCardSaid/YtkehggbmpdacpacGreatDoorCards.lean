/-
  DERIVED. GIVEN WITH THE SEED: THE CARDS: each row of YtkehggbmpdacpacGreatDoorRows.lean that lists a variable, with what it lists TIED to the program's text (the seventh form; the later family's looks); each row that meets fmt, with fmt's text TOLD by the authors' own Lean function (tested against real Go, not proved from fmt's source: count such statements apart). THE CARD IS WHAT COUNTS. Prove the row's statement (the work); the ties are given (YtkehggbmpdacpacGreatDoorTie.lean); close each card by the builder's one call (the guide's Derived/Test/ToyasCard.lean, 'card_holds'). Laid BY PROGRAM, IN A SANDBOX (cutbox-door.mjs). By AI agents, Wed Nov 11 2026. No macro, syntax, notation, axiom, sorry.
-/
import Derived.Test.YtkehggbmpdacpacGreatDoorRows
import GoSem.ClaimSeven
namespace Go.Proofs.YtkehggbmpdacpacGreatDoor
namespace Rows

/-- THE TIED CARD OF 'laws.FnNoDivider'. -/
def fnNoDividerCard : Claim7 := { stood := { row := fnNoDividerRow, standIns := [], harness := (true, "a350107a8cd5e776dc1cb86c296e2357b6e9ab1ddfdf1a877cf876f612bf0630"), looks := false }, kinds := [], alts := [], laidByText := true, laidKinds := [.data, .listed, .data, .sentinel, .data, .pinned, .pinned, .pinned], laidTests := true, laidLooks := .later }
def FnNoDividerCardSaid : Prop := Claim7.holds Tryz.pinned (.plain (OpenSpec.ofChange fnNoDividerSpec)) fnNoDividerCard

/-- THE TIED CARD OF 'laws.FnOnce'. -/
def fnOnceCard : Claim7 := { stood := { row := fnOnceRow, standIns := [], harness := (true, "a350107a8cd5e776dc1cb86c296e2357b6e9ab1ddfdf1a877cf876f612bf0630"), looks := false }, kinds := [], alts := [], laidByText := true, laidKinds := [.data, .listed, .data, .sentinel, .data, .pinned, .pinned, .pinned], laidTests := true, laidLooks := .later }
def FnOnceCardSaid : Prop := Claim7.holds Tryz.pinned (.plain (OpenSpec.ofChange fnOnceSpec)) fnOnceCard

/-- THE TIED CARD OF 'laws.FnOrg'. -/
def fnOrgCard : Claim7 := { stood := { row := fnOrgRow, standIns := [], harness := (true, "a350107a8cd5e776dc1cb86c296e2357b6e9ab1ddfdf1a877cf876f612bf0630"), looks := false }, kinds := [], alts := [], laidByText := true, laidKinds := [.data, .listed, .data, .sentinel, .data, .pinned, .pinned, .pinned], laidTests := true, laidLooks := .later }
def FnOrgCardSaid : Prop := Claim7.holds Tryz.pinned (.plain (OpenSpec.ofChange fnOrgSpec)) fnOrgCard

/-- THE TIED CARD OF 'laws.FnPointed'. -/
def fnPointedCard : Claim7 := { stood := { row := fnPointedRow, standIns := [], harness := (true, "a350107a8cd5e776dc1cb86c296e2357b6e9ab1ddfdf1a877cf876f612bf0630"), looks := false }, kinds := [], alts := [], laidByText := true, laidKinds := [.data, .listed, .data, .sentinel, .data, .pinned, .pinned, .pinned], laidTests := true, laidLooks := .later }
def FnPointedCardSaid : Prop := Claim7.holds Tryz.pinned (.plain (OpenSpec.ofChange fnPointedSpec)) fnPointedCard

/-- THE TIED CARD OF 'laws.FnQuoteUnended'. -/
def fnQuoteUnendedCard : Claim7 := { stood := { row := fnQuoteUnendedRow, standIns := [], harness := (true, "a350107a8cd5e776dc1cb86c296e2357b6e9ab1ddfdf1a877cf876f612bf0630"), looks := false }, kinds := [], alts := [], laidByText := true, laidKinds := [.data, .listed, .data, .sentinel, .data, .pinned, .pinned, .pinned], laidTests := true, laidLooks := .later }
def FnQuoteUnendedCardSaid : Prop := Claim7.holds Tryz.pinned (.plain (OpenSpec.ofChange fnQuoteUnendedSpec)) fnQuoteUnendedCard

/-- THE TIED CARD OF 'laws.FnQuoted'. -/
def fnQuotedCard : Claim7 := { stood := { row := fnQuotedRow, standIns := [], harness := (true, "a350107a8cd5e776dc1cb86c296e2357b6e9ab1ddfdf1a877cf876f612bf0630"), looks := false }, kinds := [], alts := [], laidByText := true, laidKinds := [.data, .listed, .data, .sentinel, .data, .pinned, .pinned, .pinned], laidTests := true, laidLooks := .later }
def FnQuotedCardSaid : Prop := Claim7.holds Tryz.pinned (.plain (OpenSpec.ofChange fnQuotedSpec)) fnQuotedCard

/-- THE TIED CARD OF 'laws.FnRaw'. -/
def fnRawCard : Claim7 := { stood := { row := fnRawRow, standIns := [], harness := (true, "a350107a8cd5e776dc1cb86c296e2357b6e9ab1ddfdf1a877cf876f612bf0630"), looks := false }, kinds := [], alts := [], laidByText := true, laidKinds := [.data, .listed, .data, .sentinel, .data, .pinned, .pinned, .pinned], laidTests := true, laidLooks := .later }
def FnRawCardSaid : Prop := Claim7.holds Tryz.pinned (.plain (OpenSpec.ofChange fnRawSpec)) fnRawCard

/-- THE TIED CARD OF 'laws.FnSelf'. -/
def fnSelfCard : Claim7 := { stood := { row := fnSelfRow, standIns := [], harness := (true, "a350107a8cd5e776dc1cb86c296e2357b6e9ab1ddfdf1a877cf876f612bf0630"), looks := false }, kinds := [], alts := [], laidByText := true, laidKinds := [.data, .listed, .data, .sentinel, .data, .pinned, .pinned, .pinned], laidTests := true, laidLooks := .later }
def FnSelfCardSaid : Prop := Claim7.holds Tryz.pinned (.plain (OpenSpec.ofChange fnSelfSpec)) fnSelfCard

/-- THE TIED CARD OF 'laws.FnTextBack'. -/
def fnTextBackCard : Claim7 := { stood := { row := fnTextBackRow, standIns := [], harness := (true, "a350107a8cd5e776dc1cb86c296e2357b6e9ab1ddfdf1a877cf876f612bf0630"), looks := false }, kinds := [], alts := [], laidByText := true, laidKinds := [.data, .listed, .data, .sentinel, .data, .pinned, .pinned, .pinned], laidTests := true, laidLooks := .later }
def FnTextBackCardSaid : Prop := Claim7.holds Tryz.pinned (.plain (OpenSpec.ofChange fnTextBackSpec)) fnTextBackCard

/-- THE TIED CARD OF 'laws.FnUnended'. -/
def fnUnendedCard : Claim7 := { stood := { row := fnUnendedRow, standIns := [], harness := (true, "a350107a8cd5e776dc1cb86c296e2357b6e9ab1ddfdf1a877cf876f612bf0630"), looks := false }, kinds := [], alts := [], laidByText := true, laidKinds := [.data, .listed, .data, .sentinel, .data, .pinned, .pinned, .pinned], laidTests := true, laidLooks := .later }
def FnUnendedCardSaid : Prop := Claim7.holds Tryz.pinned (.plain (OpenSpec.ofChange fnUnendedSpec)) fnUnendedCard

/-- THE SECOND FORM's CARD OF 'laws.FnNoDivider'. -/
def fnNoDividerUptoCard : Claim7 := { stood := { row := fnNoDividerUptoRow, standIns := [], harness := (true, "a350107a8cd5e776dc1cb86c296e2357b6e9ab1ddfdf1a877cf876f612bf0630"), looks := false }, kinds := [], alts := [], laidByText := true, laidKinds := [.data, .listed, .data, .sentinel, .data, .pinned, .pinned, .pinned], laidTests := true, laidLooks := .later }
def FnNoDividerUptoCardSaid : Prop := Claim7.holds Tryz.pinned (.plain (OpenSpec.upto fnNoDividerSpec)) fnNoDividerUptoCard

/-- THE SECOND FORM's CARD OF 'laws.FnOnce'. -/
def fnOnceUptoCard : Claim7 := { stood := { row := fnOnceUptoRow, standIns := [], harness := (true, "a350107a8cd5e776dc1cb86c296e2357b6e9ab1ddfdf1a877cf876f612bf0630"), looks := false }, kinds := [], alts := [], laidByText := true, laidKinds := [.data, .listed, .data, .sentinel, .data, .pinned, .pinned, .pinned], laidTests := true, laidLooks := .later }
def FnOnceUptoCardSaid : Prop := Claim7.holds Tryz.pinned (.plain (OpenSpec.upto fnOnceSpec)) fnOnceUptoCard

/-- THE SECOND FORM's CARD OF 'laws.FnOrg'. -/
def fnOrgUptoCard : Claim7 := { stood := { row := fnOrgUptoRow, standIns := [], harness := (true, "a350107a8cd5e776dc1cb86c296e2357b6e9ab1ddfdf1a877cf876f612bf0630"), looks := false }, kinds := [], alts := [], laidByText := true, laidKinds := [.data, .listed, .data, .sentinel, .data, .pinned, .pinned, .pinned], laidTests := true, laidLooks := .later }
def FnOrgUptoCardSaid : Prop := Claim7.holds Tryz.pinned (.plain (OpenSpec.upto fnOrgSpec)) fnOrgUptoCard

/-- THE SECOND FORM's CARD OF 'laws.FnPointed'. -/
def fnPointedUptoCard : Claim7 := { stood := { row := fnPointedUptoRow, standIns := [], harness := (true, "a350107a8cd5e776dc1cb86c296e2357b6e9ab1ddfdf1a877cf876f612bf0630"), looks := false }, kinds := [], alts := [], laidByText := true, laidKinds := [.data, .listed, .data, .sentinel, .data, .pinned, .pinned, .pinned], laidTests := true, laidLooks := .later }
def FnPointedUptoCardSaid : Prop := Claim7.holds Tryz.pinned (.plain (OpenSpec.upto fnPointedSpec)) fnPointedUptoCard

/-- THE SECOND FORM's CARD OF 'laws.FnQuoteUnended'. -/
def fnQuoteUnendedUptoCard : Claim7 := { stood := { row := fnQuoteUnendedUptoRow, standIns := [], harness := (true, "a350107a8cd5e776dc1cb86c296e2357b6e9ab1ddfdf1a877cf876f612bf0630"), looks := false }, kinds := [], alts := [], laidByText := true, laidKinds := [.data, .listed, .data, .sentinel, .data, .pinned, .pinned, .pinned], laidTests := true, laidLooks := .later }
def FnQuoteUnendedUptoCardSaid : Prop := Claim7.holds Tryz.pinned (.plain (OpenSpec.upto fnQuoteUnendedSpec)) fnQuoteUnendedUptoCard

/-- THE SECOND FORM's CARD OF 'laws.FnQuoted'. -/
def fnQuotedUptoCard : Claim7 := { stood := { row := fnQuotedUptoRow, standIns := [], harness := (true, "a350107a8cd5e776dc1cb86c296e2357b6e9ab1ddfdf1a877cf876f612bf0630"), looks := false }, kinds := [], alts := [], laidByText := true, laidKinds := [.data, .listed, .data, .sentinel, .data, .pinned, .pinned, .pinned], laidTests := true, laidLooks := .later }
def FnQuotedUptoCardSaid : Prop := Claim7.holds Tryz.pinned (.plain (OpenSpec.upto fnQuotedSpec)) fnQuotedUptoCard

/-- THE SECOND FORM's CARD OF 'laws.FnRaw'. -/
def fnRawUptoCard : Claim7 := { stood := { row := fnRawUptoRow, standIns := [], harness := (true, "a350107a8cd5e776dc1cb86c296e2357b6e9ab1ddfdf1a877cf876f612bf0630"), looks := false }, kinds := [], alts := [], laidByText := true, laidKinds := [.data, .listed, .data, .sentinel, .data, .pinned, .pinned, .pinned], laidTests := true, laidLooks := .later }
def FnRawUptoCardSaid : Prop := Claim7.holds Tryz.pinned (.plain (OpenSpec.upto fnRawSpec)) fnRawUptoCard

/-- THE SECOND FORM's CARD OF 'laws.FnSelf'. -/
def fnSelfUptoCard : Claim7 := { stood := { row := fnSelfUptoRow, standIns := [], harness := (true, "a350107a8cd5e776dc1cb86c296e2357b6e9ab1ddfdf1a877cf876f612bf0630"), looks := false }, kinds := [], alts := [], laidByText := true, laidKinds := [.data, .listed, .data, .sentinel, .data, .pinned, .pinned, .pinned], laidTests := true, laidLooks := .later }
def FnSelfUptoCardSaid : Prop := Claim7.holds Tryz.pinned (.plain (OpenSpec.upto fnSelfSpec)) fnSelfUptoCard

/-- THE SECOND FORM's CARD OF 'laws.FnTextBack'. -/
def fnTextBackUptoCard : Claim7 := { stood := { row := fnTextBackUptoRow, standIns := [], harness := (true, "a350107a8cd5e776dc1cb86c296e2357b6e9ab1ddfdf1a877cf876f612bf0630"), looks := false }, kinds := [], alts := [], laidByText := true, laidKinds := [.data, .listed, .data, .sentinel, .data, .pinned, .pinned, .pinned], laidTests := true, laidLooks := .later }
def FnTextBackUptoCardSaid : Prop := Claim7.holds Tryz.pinned (.plain (OpenSpec.upto fnTextBackSpec)) fnTextBackUptoCard

/-- THE SECOND FORM's CARD OF 'laws.FnUnended'. -/
def fnUnendedUptoCard : Claim7 := { stood := { row := fnUnendedUptoRow, standIns := [], harness := (true, "a350107a8cd5e776dc1cb86c296e2357b6e9ab1ddfdf1a877cf876f612bf0630"), looks := false }, kinds := [], alts := [], laidByText := true, laidKinds := [.data, .listed, .data, .sentinel, .data, .pinned, .pinned, .pinned], laidTests := true, laidLooks := .later }
def FnUnendedUptoCardSaid : Prop := Claim7.holds Tryz.pinned (.plain (OpenSpec.upto fnUnendedSpec)) fnUnendedUptoCard
end Rows
end Go.Proofs.YtkehggbmpdacpacGreatDoor
