/-
  DERIVED. GIVEN WITH THE SEED: THE CARDS: each row of YtgcadmofjblaeaaDoorRows.lean that lists a variable, with what it lists TIED to the program's text (the seventh form; the later family's looks); each row that meets fmt, with fmt's text TOLD by the authors' own Lean function (tested against real Go, not proved from fmt's source: count such statements apart). THE CARD IS WHAT COUNTS. Prove the row's statement (the work); the ties are given (YtgcadmofjblaeaaDoorTie.lean); close each card by the builder's one call (the guide's Derived/Test/ToyasCard.lean, 'card_holds'). Laid BY PROGRAM, IN A SANDBOX (cutbox-door.mjs). By AI agents, Wed Nov 11 2026. No macro, syntax, notation, axiom, sorry.
-/
import Derived.Test.YtgcadmofjblaeaaDoorRows
import GoSem.ClaimSeven
namespace Go.Proofs.YtgcadmofjblaeaaDoor
namespace Rows

/-- THE TIED CARD OF 'laws.FnExtension'. -/
def fnExtensionCard : Claim7 := { stood := { row := fnExtensionRow, standIns := [], harness := (true, "cf30ab6b12c68ce4986e78abb73c5f99c674c1e5ff5d8286d7cabbaf4b64a36e"), looks := false }, kinds := [], alts := [], laidByText := true, laidKinds := [.zero, .zero], laidTests := true, laidLooks := .later }
def FnExtensionCardSaid : Prop := Claim7.holds Tryd.pinned (.plain (OpenSpec.ofChange fnExtensionSpec)) fnExtensionCard

/-- THE TIED CARD OF 'laws.FnNameBuilt'. -/
def fnNameBuiltCard : Claim7 := { stood := { row := fnNameBuiltRow, standIns := [], harness := (true, "cf30ab6b12c68ce4986e78abb73c5f99c674c1e5ff5d8286d7cabbaf4b64a36e"), looks := false }, kinds := [], alts := [], laidByText := true, laidKinds := [.zero], laidTests := true, laidLooks := .later }
def FnNameBuiltCardSaid : Prop := Claim7.holds Tryd.pinned (.plain (OpenSpec.ofChange fnNameBuiltSpec)) fnNameBuiltCard

/-- THE TIED CARD OF 'laws.FnNames'. -/
def fnNamesCard : Claim7 := { stood := { row := fnNamesRow, standIns := [], harness := (true, "cf30ab6b12c68ce4986e78abb73c5f99c674c1e5ff5d8286d7cabbaf4b64a36e"), looks := false }, kinds := [], alts := [], laidByText := true, laidKinds := [.zero, .zero], laidTests := true, laidLooks := .later }
def FnNamesCardSaid : Prop := Claim7.holds Tryd.pinned (.plain (OpenSpec.ofChange fnNamesSpec)) fnNamesCard

/-- THE SECOND FORM's CARD OF 'laws.FnExtension'. -/
def fnExtensionUptoCard : Claim7 := { stood := { row := fnExtensionUptoRow, standIns := [], harness := (true, "cf30ab6b12c68ce4986e78abb73c5f99c674c1e5ff5d8286d7cabbaf4b64a36e"), looks := false }, kinds := [], alts := [], laidByText := true, laidKinds := [.zero, .zero], laidTests := true, laidLooks := .later }
def FnExtensionUptoCardSaid : Prop := Claim7.holds Tryd.pinned (.plain (OpenSpec.upto fnExtensionSpec)) fnExtensionUptoCard

/-- THE SECOND FORM's CARD OF 'laws.FnNameBuilt'. -/
def fnNameBuiltUptoCard : Claim7 := { stood := { row := fnNameBuiltUptoRow, standIns := [], harness := (true, "cf30ab6b12c68ce4986e78abb73c5f99c674c1e5ff5d8286d7cabbaf4b64a36e"), looks := false }, kinds := [], alts := [], laidByText := true, laidKinds := [.zero], laidTests := true, laidLooks := .later }
def FnNameBuiltUptoCardSaid : Prop := Claim7.holds Tryd.pinned (.plain (OpenSpec.upto fnNameBuiltSpec)) fnNameBuiltUptoCard

/-- THE SECOND FORM's CARD OF 'laws.FnNames'. -/
def fnNamesUptoCard : Claim7 := { stood := { row := fnNamesUptoRow, standIns := [], harness := (true, "cf30ab6b12c68ce4986e78abb73c5f99c674c1e5ff5d8286d7cabbaf4b64a36e"), looks := false }, kinds := [], alts := [], laidByText := true, laidKinds := [.zero, .zero], laidTests := true, laidLooks := .later }
def FnNamesUptoCardSaid : Prop := Claim7.holds Tryd.pinned (.plain (OpenSpec.upto fnNamesSpec)) fnNamesUptoCard
end Rows
end Go.Proofs.YtgcadmofjblaeaaDoor
