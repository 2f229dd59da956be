/-
  DERIVED. GIVEN WITH THE SEED: THE CARDS: each row of YtflmkgkkjhphkaaDoorRows.lean that lists a variable, with what it lists TIED to the program's text (the seventh form; the later family's looks); each row that meets fmt, with fmt's text TOLD by the authors' own Lean function (tested against real Go, not proved from fmt's source: count such statements apart). THE CARD IS WHAT COUNTS. Prove the row's statement (the work); the ties are given (YtflmkgkkjhphkaaDoorTie.lean); close each card by the builder's one call (the guide's Derived/Test/ToyasCard.lean, 'card_holds'). Laid BY PROGRAM, IN A SANDBOX (cutbox-door.mjs). By AI agents, Wed Nov 11 2026. No macro, syntax, notation, axiom, sorry.
-/
import Derived.Test.YtflmkgkkjhphkaaDoorRows
import GoSem.ClaimSeven
namespace Go.Proofs.YtflmkgkkjhphkaaDoor
namespace Rows

/-- THE TIED CARD OF 'laws.FnSanitize'. -/
def fnSanitizeCard : Claim7 := { stood := { row := fnSanitizeRow, standIns := [], harness := (true, "e7877fca1ca9b90f636aa2d41db55c9be33af5ed36798623a7f80a9309d10632"), looks := false }, kinds := [], alts := [], laidByText := true, laidKinds := [.listed, .data, .pinned, .pinned, .pinned], laidTests := true, laidLooks := .later }
def FnSanitizeCardSaid : Prop := Claim7.holds Tryd.pinned (.plain (OpenSpec.ofChange fnSanitizeSpec)) fnSanitizeCard

/-- THE TIED CARD OF 'laws.FnSanitizeDrops'. -/
def fnSanitizeDropsCard : Claim7 := { stood := { row := fnSanitizeDropsRow, standIns := [], harness := (true, "e7877fca1ca9b90f636aa2d41db55c9be33af5ed36798623a7f80a9309d10632"), looks := false }, kinds := [], alts := [], laidByText := true, laidKinds := [.listed, .data, .pinned, .pinned, .pinned], laidTests := true, laidLooks := .later }
def FnSanitizeDropsCardSaid : Prop := Claim7.holds Tryd.pinned (.plain (OpenSpec.ofChange fnSanitizeDropsSpec)) fnSanitizeDropsCard

/-- THE TIED CARD OF 'laws.FnSanitizeParts'. -/
def fnSanitizePartsCard : Claim7 := { stood := { row := fnSanitizePartsRow, standIns := [], harness := (true, "e7877fca1ca9b90f636aa2d41db55c9be33af5ed36798623a7f80a9309d10632"), looks := false }, kinds := [], alts := [], laidByText := true, laidKinds := [.listed, .data, .pinned, .pinned, .pinned], laidTests := true, laidLooks := .later }
def FnSanitizePartsCardSaid : Prop := Claim7.holds Tryd.pinned (.plain (OpenSpec.ofChange fnSanitizePartsSpec)) fnSanitizePartsCard

/-- THE TIED CARD OF 'laws.FnSanitizeTwice'. -/
def fnSanitizeTwiceCard : Claim7 := { stood := { row := fnSanitizeTwiceRow, standIns := [], harness := (true, "e7877fca1ca9b90f636aa2d41db55c9be33af5ed36798623a7f80a9309d10632"), looks := false }, kinds := [], alts := [], laidByText := true, laidKinds := [.listed, .data, .pinned, .pinned, .pinned], laidTests := true, laidLooks := .later }
def FnSanitizeTwiceCardSaid : Prop := Claim7.holds Tryd.pinned (.plain (OpenSpec.ofChange fnSanitizeTwiceSpec)) fnSanitizeTwiceCard

/-- THE TIED CARD OF 'laws.FnSanitizeWords'. -/
def fnSanitizeWordsCard : Claim7 := { stood := { row := fnSanitizeWordsRow, standIns := [], harness := (true, "e7877fca1ca9b90f636aa2d41db55c9be33af5ed36798623a7f80a9309d10632"), looks := false }, kinds := [], alts := [], laidByText := true, laidKinds := [.listed, .data, .pinned, .pinned, .pinned], laidTests := true, laidLooks := .later }
def FnSanitizeWordsCardSaid : Prop := Claim7.holds Tryd.pinned (.plain (OpenSpec.ofChange fnSanitizeWordsSpec)) fnSanitizeWordsCard

/-- THE SECOND FORM's CARD OF 'laws.FnSanitize'. -/
def fnSanitizeUptoCard : Claim7 := { stood := { row := fnSanitizeUptoRow, standIns := [], harness := (true, "e7877fca1ca9b90f636aa2d41db55c9be33af5ed36798623a7f80a9309d10632"), looks := false }, kinds := [], alts := [], laidByText := true, laidKinds := [.listed, .data, .pinned, .pinned, .pinned], laidTests := true, laidLooks := .later }
def FnSanitizeUptoCardSaid : Prop := Claim7.holds Tryd.pinned (.plain (OpenSpec.upto fnSanitizeSpec)) fnSanitizeUptoCard

/-- THE SECOND FORM's CARD OF 'laws.FnSanitizeDrops'. -/
def fnSanitizeDropsUptoCard : Claim7 := { stood := { row := fnSanitizeDropsUptoRow, standIns := [], harness := (true, "e7877fca1ca9b90f636aa2d41db55c9be33af5ed36798623a7f80a9309d10632"), looks := false }, kinds := [], alts := [], laidByText := true, laidKinds := [.listed, .data, .pinned, .pinned, .pinned], laidTests := true, laidLooks := .later }
def FnSanitizeDropsUptoCardSaid : Prop := Claim7.holds Tryd.pinned (.plain (OpenSpec.upto fnSanitizeDropsSpec)) fnSanitizeDropsUptoCard

/-- THE SECOND FORM's CARD OF 'laws.FnSanitizeParts'. -/
def fnSanitizePartsUptoCard : Claim7 := { stood := { row := fnSanitizePartsUptoRow, standIns := [], harness := (true, "e7877fca1ca9b90f636aa2d41db55c9be33af5ed36798623a7f80a9309d10632"), looks := false }, kinds := [], alts := [], laidByText := true, laidKinds := [.listed, .data, .pinned, .pinned, .pinned], laidTests := true, laidLooks := .later }
def FnSanitizePartsUptoCardSaid : Prop := Claim7.holds Tryd.pinned (.plain (OpenSpec.upto fnSanitizePartsSpec)) fnSanitizePartsUptoCard

/-- THE SECOND FORM's CARD OF 'laws.FnSanitizeTwice'. -/
def fnSanitizeTwiceUptoCard : Claim7 := { stood := { row := fnSanitizeTwiceUptoRow, standIns := [], harness := (true, "e7877fca1ca9b90f636aa2d41db55c9be33af5ed36798623a7f80a9309d10632"), looks := false }, kinds := [], alts := [], laidByText := true, laidKinds := [.listed, .data, .pinned, .pinned, .pinned], laidTests := true, laidLooks := .later }
def FnSanitizeTwiceUptoCardSaid : Prop := Claim7.holds Tryd.pinned (.plain (OpenSpec.upto fnSanitizeTwiceSpec)) fnSanitizeTwiceUptoCard

/-- THE SECOND FORM's CARD OF 'laws.FnSanitizeWords'. -/
def fnSanitizeWordsUptoCard : Claim7 := { stood := { row := fnSanitizeWordsUptoRow, standIns := [], harness := (true, "e7877fca1ca9b90f636aa2d41db55c9be33af5ed36798623a7f80a9309d10632"), looks := false }, kinds := [], alts := [], laidByText := true, laidKinds := [.listed, .data, .pinned, .pinned, .pinned], laidTests := true, laidLooks := .later }
def FnSanitizeWordsUptoCardSaid : Prop := Claim7.holds Tryd.pinned (.plain (OpenSpec.upto fnSanitizeWordsSpec)) fnSanitizeWordsUptoCard
end Rows
end Go.Proofs.YtflmkgkkjhphkaaDoor
