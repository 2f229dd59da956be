/-
  DERIVED. GIVEN WITH THE SEED: THE CARDS: each row of YtkehggbmpdacpaaGreatDoorRows.lean that lists a variable, with what it lists TIED to the program's text (the seventh form; the later family's looks); each row that meets fmt, with fmt's text TOLD by the authors' own Lean function (tested against real Go, not proved from fmt's source: count such statements apart). THE CARD IS WHAT COUNTS. Prove the row's statement (the work); the ties are given (YtkehggbmpdacpaaGreatDoorTie.lean); close each card by the builder's one call (the guide's Derived/Test/ToyasCard.lean, 'card_holds'). Laid BY PROGRAM, IN A SANDBOX (cutbox-door.mjs). By AI agents, Wed Nov 11 2026. No macro, syntax, notation, axiom, sorry.
-/
import Derived.Test.YtkehggbmpdacpaaGreatDoorRows
import GoSem.ClaimSeven
namespace Go.Proofs.YtkehggbmpdacpaaGreatDoor
namespace Rows

/-- THE TIED CARD OF 'laws.FnAhead'. -/
def fnAheadCard : Claim7 := { stood := { row := fnAheadRow, standIns := [], harness := (true, "286bac2de12f8aba505d301312c06c73b076f87ccc3caa1ae2ce89ac5aa8d9c4"), looks := false }, kinds := [], alts := [], laidByText := true, laidKinds := [.data, .listed, .data, .sentinel, .data, .pinned, .pinned, .pinned], laidTests := true, laidLooks := .later }
def FnAheadCardSaid : Prop := Claim7.holds Tryz.pinned (.plain (OpenSpec.ofChange fnAheadSpec)) fnAheadCard

/-- THE TIED CARD OF 'laws.FnBare'. -/
def fnBareCard : Claim7 := { stood := { row := fnBareRow, standIns := [], harness := (true, "286bac2de12f8aba505d301312c06c73b076f87ccc3caa1ae2ce89ac5aa8d9c4"), looks := false }, kinds := [], alts := [], laidByText := true, laidKinds := [.data, .listed, .data, .sentinel, .data, .pinned, .pinned, .pinned], laidTests := true, laidLooks := .later }
def FnBareCardSaid : Prop := Claim7.holds Tryz.pinned (.plain (OpenSpec.ofChange fnBareSpec)) fnBareCard

/-- THE TIED CARD OF 'laws.FnBareNamed'. -/
def fnBareNamedCard : Claim7 := { stood := { row := fnBareNamedRow, standIns := [], harness := (true, "286bac2de12f8aba505d301312c06c73b076f87ccc3caa1ae2ce89ac5aa8d9c4"), looks := false }, kinds := [], alts := [], laidByText := true, laidKinds := [.data, .listed, .data, .sentinel, .data, .pinned, .pinned, .pinned], laidTests := true, laidLooks := .later }
def FnBareNamedCardSaid : Prop := Claim7.holds Tryz.pinned (.plain (OpenSpec.ofChange fnBareNamedSpec)) fnBareNamedCard

/-- THE TIED CARD OF 'laws.FnBehind'. -/
def fnBehindCard : Claim7 := { stood := { row := fnBehindRow, standIns := [], harness := (true, "286bac2de12f8aba505d301312c06c73b076f87ccc3caa1ae2ce89ac5aa8d9c4"), looks := false }, kinds := [], alts := [], laidByText := true, laidKinds := [.data, .listed, .data, .sentinel, .data, .pinned, .pinned, .pinned], laidTests := true, laidLooks := .later }
def FnBehindCardSaid : Prop := Claim7.holds Tryz.pinned (.plain (OpenSpec.ofChange fnBehindSpec)) fnBehindCard

/-- THE TIED CARD OF 'laws.FnBuilt'. -/
def fnBuiltCard : Claim7 := { stood := { row := fnBuiltRow, standIns := [], harness := (true, "286bac2de12f8aba505d301312c06c73b076f87ccc3caa1ae2ce89ac5aa8d9c4"), looks := false }, kinds := [], alts := [], laidByText := true, laidKinds := [.data, .listed, .data, .sentinel, .data, .pinned, .pinned, .pinned], laidTests := true, laidLooks := .later }
def FnBuiltCardSaid : Prop := Claim7.holds Tryz.pinned (.plain (OpenSpec.ofChange fnBuiltSpec)) fnBuiltCard

/-- THE TIED CARD OF 'laws.FnClosed'. -/
def fnClosedCard : Claim7 := { stood := { row := fnClosedRow, standIns := [], harness := (true, "286bac2de12f8aba505d301312c06c73b076f87ccc3caa1ae2ce89ac5aa8d9c4"), looks := false }, kinds := [], alts := [], laidByText := true, laidKinds := [.data, .listed, .data, .sentinel, .data, .pinned, .pinned, .pinned], laidTests := true, laidLooks := .later }
def FnClosedCardSaid : Prop := Claim7.holds Tryz.pinned (.plain (OpenSpec.ofChange fnClosedSpec)) fnClosedCard

/-- THE TIED CARD OF 'laws.FnClosedBehind'. -/
def fnClosedBehindCard : Claim7 := { stood := { row := fnClosedBehindRow, standIns := [], harness := (true, "286bac2de12f8aba505d301312c06c73b076f87ccc3caa1ae2ce89ac5aa8d9c4"), looks := false }, kinds := [], alts := [], laidByText := true, laidKinds := [.data, .listed, .data, .sentinel, .data, .pinned, .pinned, .pinned], laidTests := true, laidLooks := .later }
def FnClosedBehindCardSaid : Prop := Claim7.holds Tryz.pinned (.plain (OpenSpec.ofChange fnClosedBehindSpec)) fnClosedBehindCard

/-- THE TIED CARD OF 'laws.FnClosedUnopened'. -/
def fnClosedUnopenedCard : Claim7 := { stood := { row := fnClosedUnopenedRow, standIns := [], harness := (true, "286bac2de12f8aba505d301312c06c73b076f87ccc3caa1ae2ce89ac5aa8d9c4"), looks := false }, kinds := [], alts := [], laidByText := true, laidKinds := [.data, .listed, .data, .sentinel, .data, .pinned, .pinned, .pinned], laidTests := true, laidLooks := .later }
def FnClosedUnopenedCardSaid : Prop := Claim7.holds Tryz.pinned (.plain (OpenSpec.ofChange fnClosedUnopenedSpec)) fnClosedUnopenedCard

/-- THE TIED CARD OF 'laws.FnComment'. -/
def fnCommentCard : Claim7 := { stood := { row := fnCommentRow, standIns := [], harness := (true, "286bac2de12f8aba505d301312c06c73b076f87ccc3caa1ae2ce89ac5aa8d9c4"), looks := false }, kinds := [], alts := [], laidByText := true, laidKinds := [.data, .listed, .data, .sentinel, .data, .pinned, .pinned, .pinned], laidTests := true, laidLooks := .later }
def FnCommentCardSaid : Prop := Claim7.holds Tryz.pinned (.plain (OpenSpec.ofChange fnCommentSpec)) fnCommentCard

/-- THE TIED CARD OF 'laws.FnCommentUnended'. -/
def fnCommentUnendedCard : Claim7 := { stood := { row := fnCommentUnendedRow, standIns := [], harness := (true, "286bac2de12f8aba505d301312c06c73b076f87ccc3caa1ae2ce89ac5aa8d9c4"), looks := false }, kinds := [], alts := [], laidByText := true, laidKinds := [.data, .listed, .data, .sentinel, .data, .pinned, .pinned, .pinned], laidTests := true, laidLooks := .later }
def FnCommentUnendedCardSaid : Prop := Claim7.holds Tryz.pinned (.plain (OpenSpec.ofChange fnCommentUnendedSpec)) fnCommentUnendedCard

/-- THE TIED CARD OF 'laws.FnDivider'. -/
def fnDividerCard : Claim7 := { stood := { row := fnDividerRow, standIns := [], harness := (true, "286bac2de12f8aba505d301312c06c73b076f87ccc3caa1ae2ce89ac5aa8d9c4"), looks := false }, kinds := [], alts := [], laidByText := true, laidKinds := [.data, .listed, .data, .sentinel, .data, .pinned, .pinned, .pinned], laidTests := true, laidLooks := .later }
def FnDividerCardSaid : Prop := Claim7.holds Tryz.pinned (.plain (OpenSpec.ofChange fnDividerSpec)) fnDividerCard

/-- THE SECOND FORM's CARD OF 'laws.FnAhead'. -/
def fnAheadUptoCard : Claim7 := { stood := { row := fnAheadUptoRow, standIns := [], harness := (true, "286bac2de12f8aba505d301312c06c73b076f87ccc3caa1ae2ce89ac5aa8d9c4"), looks := false }, kinds := [], alts := [], laidByText := true, laidKinds := [.data, .listed, .data, .sentinel, .data, .pinned, .pinned, .pinned], laidTests := true, laidLooks := .later }
def FnAheadUptoCardSaid : Prop := Claim7.holds Tryz.pinned (.plain (OpenSpec.upto fnAheadSpec)) fnAheadUptoCard

/-- THE SECOND FORM's CARD OF 'laws.FnBare'. -/
def fnBareUptoCard : Claim7 := { stood := { row := fnBareUptoRow, standIns := [], harness := (true, "286bac2de12f8aba505d301312c06c73b076f87ccc3caa1ae2ce89ac5aa8d9c4"), looks := false }, kinds := [], alts := [], laidByText := true, laidKinds := [.data, .listed, .data, .sentinel, .data, .pinned, .pinned, .pinned], laidTests := true, laidLooks := .later }
def FnBareUptoCardSaid : Prop := Claim7.holds Tryz.pinned (.plain (OpenSpec.upto fnBareSpec)) fnBareUptoCard

/-- THE SECOND FORM's CARD OF 'laws.FnBareNamed'. -/
def fnBareNamedUptoCard : Claim7 := { stood := { row := fnBareNamedUptoRow, standIns := [], harness := (true, "286bac2de12f8aba505d301312c06c73b076f87ccc3caa1ae2ce89ac5aa8d9c4"), looks := false }, kinds := [], alts := [], laidByText := true, laidKinds := [.data, .listed, .data, .sentinel, .data, .pinned, .pinned, .pinned], laidTests := true, laidLooks := .later }
def FnBareNamedUptoCardSaid : Prop := Claim7.holds Tryz.pinned (.plain (OpenSpec.upto fnBareNamedSpec)) fnBareNamedUptoCard

/-- THE SECOND FORM's CARD OF 'laws.FnBehind'. -/
def fnBehindUptoCard : Claim7 := { stood := { row := fnBehindUptoRow, standIns := [], harness := (true, "286bac2de12f8aba505d301312c06c73b076f87ccc3caa1ae2ce89ac5aa8d9c4"), looks := false }, kinds := [], alts := [], laidByText := true, laidKinds := [.data, .listed, .data, .sentinel, .data, .pinned, .pinned, .pinned], laidTests := true, laidLooks := .later }
def FnBehindUptoCardSaid : Prop := Claim7.holds Tryz.pinned (.plain (OpenSpec.upto fnBehindSpec)) fnBehindUptoCard

/-- THE SECOND FORM's CARD OF 'laws.FnBuilt'. -/
def fnBuiltUptoCard : Claim7 := { stood := { row := fnBuiltUptoRow, standIns := [], harness := (true, "286bac2de12f8aba505d301312c06c73b076f87ccc3caa1ae2ce89ac5aa8d9c4"), looks := false }, kinds := [], alts := [], laidByText := true, laidKinds := [.data, .listed, .data, .sentinel, .data, .pinned, .pinned, .pinned], laidTests := true, laidLooks := .later }
def FnBuiltUptoCardSaid : Prop := Claim7.holds Tryz.pinned (.plain (OpenSpec.upto fnBuiltSpec)) fnBuiltUptoCard

/-- THE SECOND FORM's CARD OF 'laws.FnClosed'. -/
def fnClosedUptoCard : Claim7 := { stood := { row := fnClosedUptoRow, standIns := [], harness := (true, "286bac2de12f8aba505d301312c06c73b076f87ccc3caa1ae2ce89ac5aa8d9c4"), looks := false }, kinds := [], alts := [], laidByText := true, laidKinds := [.data, .listed, .data, .sentinel, .data, .pinned, .pinned, .pinned], laidTests := true, laidLooks := .later }
def FnClosedUptoCardSaid : Prop := Claim7.holds Tryz.pinned (.plain (OpenSpec.upto fnClosedSpec)) fnClosedUptoCard

/-- THE SECOND FORM's CARD OF 'laws.FnClosedBehind'. -/
def fnClosedBehindUptoCard : Claim7 := { stood := { row := fnClosedBehindUptoRow, standIns := [], harness := (true, "286bac2de12f8aba505d301312c06c73b076f87ccc3caa1ae2ce89ac5aa8d9c4"), looks := false }, kinds := [], alts := [], laidByText := true, laidKinds := [.data, .listed, .data, .sentinel, .data, .pinned, .pinned, .pinned], laidTests := true, laidLooks := .later }
def FnClosedBehindUptoCardSaid : Prop := Claim7.holds Tryz.pinned (.plain (OpenSpec.upto fnClosedBehindSpec)) fnClosedBehindUptoCard

/-- THE SECOND FORM's CARD OF 'laws.FnClosedUnopened'. -/
def fnClosedUnopenedUptoCard : Claim7 := { stood := { row := fnClosedUnopenedUptoRow, standIns := [], harness := (true, "286bac2de12f8aba505d301312c06c73b076f87ccc3caa1ae2ce89ac5aa8d9c4"), looks := false }, kinds := [], alts := [], laidByText := true, laidKinds := [.data, .listed, .data, .sentinel, .data, .pinned, .pinned, .pinned], laidTests := true, laidLooks := .later }
def FnClosedUnopenedUptoCardSaid : Prop := Claim7.holds Tryz.pinned (.plain (OpenSpec.upto fnClosedUnopenedSpec)) fnClosedUnopenedUptoCard

/-- THE SECOND FORM's CARD OF 'laws.FnComment'. -/
def fnCommentUptoCard : Claim7 := { stood := { row := fnCommentUptoRow, standIns := [], harness := (true, "286bac2de12f8aba505d301312c06c73b076f87ccc3caa1ae2ce89ac5aa8d9c4"), looks := false }, kinds := [], alts := [], laidByText := true, laidKinds := [.data, .listed, .data, .sentinel, .data, .pinned, .pinned, .pinned], laidTests := true, laidLooks := .later }
def FnCommentUptoCardSaid : Prop := Claim7.holds Tryz.pinned (.plain (OpenSpec.upto fnCommentSpec)) fnCommentUptoCard

/-- THE SECOND FORM's CARD OF 'laws.FnCommentUnended'. -/
def fnCommentUnendedUptoCard : Claim7 := { stood := { row := fnCommentUnendedUptoRow, standIns := [], harness := (true, "286bac2de12f8aba505d301312c06c73b076f87ccc3caa1ae2ce89ac5aa8d9c4"), looks := false }, kinds := [], alts := [], laidByText := true, laidKinds := [.data, .listed, .data, .sentinel, .data, .pinned, .pinned, .pinned], laidTests := true, laidLooks := .later }
def FnCommentUnendedUptoCardSaid : Prop := Claim7.holds Tryz.pinned (.plain (OpenSpec.upto fnCommentUnendedSpec)) fnCommentUnendedUptoCard

/-- THE SECOND FORM's CARD OF 'laws.FnDivider'. -/
def fnDividerUptoCard : Claim7 := { stood := { row := fnDividerUptoRow, standIns := [], harness := (true, "286bac2de12f8aba505d301312c06c73b076f87ccc3caa1ae2ce89ac5aa8d9c4"), looks := false }, kinds := [], alts := [], laidByText := true, laidKinds := [.data, .listed, .data, .sentinel, .data, .pinned, .pinned, .pinned], laidTests := true, laidLooks := .later }
def FnDividerUptoCardSaid : Prop := Claim7.holds Tryz.pinned (.plain (OpenSpec.upto fnDividerSpec)) fnDividerUptoCard
end Rows
end Go.Proofs.YtkehggbmpdacpaaGreatDoor
