/-
  DERIVED. GIVEN WITH THE SEED: THE CARDS: each row of YtkehggbmpdacpabGreatDoorRows.lean that lists a variable, with what it lists TIED to the program's text (the seventh form; the later family's looks); each row that meets fmt, with fmt's text TOLD by the authors' own Lean function (tested against real Go, not proved from fmt's source: count such statements apart). THE CARD IS WHAT COUNTS. Prove the row's statement (the work); the ties are given (YtkehggbmpdacpabGreatDoorTie.lean); close each card by the builder's one call (the guide's Derived/Test/ToyasCard.lean, 'card_holds'). Laid BY PROGRAM, IN A SANDBOX (cutbox-door.mjs). By AI agents, Wed Nov 11 2026. No macro, syntax, notation, axiom, sorry.
-/
import Derived.Test.YtkehggbmpdacpabGreatDoorRows
import GoSem.ClaimSeven
namespace Go.Proofs.YtkehggbmpdacpabGreatDoor
namespace Rows

/-- THE TIED CARD OF 'laws.FnEscaped'. -/
def fnEscapedCard : Claim7 := { stood := { row := fnEscapedRow, standIns := [], harness := (true, "e4fa89742c93cec316ff2390959f101d86751993b320d959617cf488055ef06b"), looks := false }, kinds := [], alts := [], laidByText := true, laidKinds := [.data, .listed, .data, .sentinel, .data, .pinned, .pinned, .pinned], laidTests := true, laidLooks := .later }
def FnEscapedCardSaid : Prop := Claim7.holds Tryz.pinned (.plain (OpenSpec.ofChange fnEscapedSpec)) fnEscapedCard

/-- THE TIED CARD OF 'laws.FnFrontLines'. -/
def fnFrontLinesCard : Claim7 := { stood := { row := fnFrontLinesRow, standIns := [], harness := (true, "e4fa89742c93cec316ff2390959f101d86751993b320d959617cf488055ef06b"), looks := false }, kinds := [], alts := [], laidByText := true, laidKinds := [.data, .listed, .data, .sentinel, .data, .pinned, .pinned, .pinned], laidTests := true, laidLooks := .later }
def FnFrontLinesCardSaid : Prop := Claim7.holds Tryz.pinned (.plain (OpenSpec.ofChange fnFrontLinesSpec)) fnFrontLinesCard

/-- THE TIED CARD OF 'laws.FnFrontNone'. -/
def fnFrontNoneCard : Claim7 := { stood := { row := fnFrontNoneRow, standIns := [], harness := (true, "e4fa89742c93cec316ff2390959f101d86751993b320d959617cf488055ef06b"), looks := false }, kinds := [], alts := [], laidByText := true, laidKinds := [.data, .listed, .data, .sentinel, .data, .pinned, .pinned, .pinned], laidTests := true, laidLooks := .later }
def FnFrontNoneCardSaid : Prop := Claim7.holds Tryz.pinned (.plain (OpenSpec.ofChange fnFrontNoneSpec)) fnFrontNoneCard

/-- THE TIED CARD OF 'laws.FnIndented'. -/
def fnIndentedCard : Claim7 := { stood := { row := fnIndentedRow, standIns := [], harness := (true, "e4fa89742c93cec316ff2390959f101d86751993b320d959617cf488055ef06b"), looks := false }, kinds := [], alts := [], laidByText := true, laidKinds := [.data, .listed, .data, .sentinel, .data, .pinned, .pinned, .pinned], laidTests := true, laidLooks := .later }
def FnIndentedCardSaid : Prop := Claim7.holds Tryz.pinned (.plain (OpenSpec.ofChange fnIndentedSpec)) fnIndentedCard

/-- THE TIED CARD OF 'laws.FnInline'. -/
def fnInlineCard : Claim7 := { stood := { row := fnInlineRow, standIns := [], harness := (true, "e4fa89742c93cec316ff2390959f101d86751993b320d959617cf488055ef06b"), looks := false }, kinds := [], alts := [], laidByText := true, laidKinds := [.data, .listed, .data, .sentinel, .data, .pinned, .pinned, .pinned], laidTests := true, laidLooks := .later }
def FnInlineCardSaid : Prop := Claim7.holds Tryz.pinned (.plain (OpenSpec.ofChange fnInlineSpec)) fnInlineCard

/-- THE TIED CARD OF 'laws.FnInlineOther'. -/
def fnInlineOtherCard : Claim7 := { stood := { row := fnInlineOtherRow, standIns := [], harness := (true, "e4fa89742c93cec316ff2390959f101d86751993b320d959617cf488055ef06b"), looks := false }, kinds := [], alts := [], laidByText := true, laidKinds := [.data, .listed, .data, .sentinel, .data, .pinned, .pinned, .pinned], laidTests := true, laidLooks := .later }
def FnInlineOtherCardSaid : Prop := Claim7.holds Tryz.pinned (.plain (OpenSpec.ofChange fnInlineOtherSpec)) fnInlineOtherCard

/-- THE TIED CARD OF 'laws.FnJSON'. -/
def fnJSONCard : Claim7 := { stood := { row := fnJSONRow, standIns := [], harness := (true, "e4fa89742c93cec316ff2390959f101d86751993b320d959617cf488055ef06b"), looks := false }, kinds := [], alts := [], laidByText := true, laidKinds := [.data, .listed, .data, .sentinel, .data, .pinned, .pinned, .pinned], laidTests := true, laidLooks := .later }
def FnJSONCardSaid : Prop := Claim7.holds Tryz.pinned (.plain (OpenSpec.ofChange fnJSONSpec)) fnJSONCard

/-- THE TIED CARD OF 'laws.FnMixed'. -/
def fnMixedCard : Claim7 := { stood := { row := fnMixedRow, standIns := [], harness := (true, "e4fa89742c93cec316ff2390959f101d86751993b320d959617cf488055ef06b"), looks := false }, kinds := [], alts := [], laidByText := true, laidKinds := [.data, .listed, .data, .sentinel, .data, .pinned, .pinned, .pinned], laidTests := true, laidLooks := .later }
def FnMixedCardSaid : Prop := Claim7.holds Tryz.pinned (.plain (OpenSpec.ofChange fnMixedSpec)) fnMixedCard

/-- THE TIED CARD OF 'laws.FnName'. -/
def fnNameCard : Claim7 := { stood := { row := fnNameRow, standIns := [], harness := (true, "e4fa89742c93cec316ff2390959f101d86751993b320d959617cf488055ef06b"), looks := false }, kinds := [], alts := [], laidByText := true, laidKinds := [.data, .listed, .data, .sentinel, .data, .pinned, .pinned, .pinned], laidTests := true, laidLooks := .later }
def FnNameCardSaid : Prop := Claim7.holds Tryz.pinned (.plain (OpenSpec.ofChange fnNameSpec)) fnNameCard

/-- THE TIED CARD OF 'laws.FnNamed'. -/
def fnNamedCard : Claim7 := { stood := { row := fnNamedRow, standIns := [], harness := (true, "e4fa89742c93cec316ff2390959f101d86751993b320d959617cf488055ef06b"), looks := false }, kinds := [], alts := [], laidByText := true, laidKinds := [.data, .listed, .data, .sentinel, .data, .pinned, .pinned, .pinned], laidTests := true, laidLooks := .later }
def FnNamedCardSaid : Prop := Claim7.holds Tryz.pinned (.plain (OpenSpec.ofChange fnNamedSpec)) fnNamedCard

/-- THE TIED CARD OF 'laws.FnNested'. -/
def fnNestedCard : Claim7 := { stood := { row := fnNestedRow, standIns := [], harness := (true, "e4fa89742c93cec316ff2390959f101d86751993b320d959617cf488055ef06b"), looks := false }, kinds := [], alts := [], laidByText := true, laidKinds := [.data, .listed, .data, .sentinel, .data, .pinned, .pinned, .pinned], laidTests := true, laidLooks := .later }
def FnNestedCardSaid : Prop := Claim7.holds Tryz.pinned (.plain (OpenSpec.ofChange fnNestedSpec)) fnNestedCard

/-- THE SECOND FORM's CARD OF 'laws.FnEscaped'. -/
def fnEscapedUptoCard : Claim7 := { stood := { row := fnEscapedUptoRow, standIns := [], harness := (true, "e4fa89742c93cec316ff2390959f101d86751993b320d959617cf488055ef06b"), looks := false }, kinds := [], alts := [], laidByText := true, laidKinds := [.data, .listed, .data, .sentinel, .data, .pinned, .pinned, .pinned], laidTests := true, laidLooks := .later }
def FnEscapedUptoCardSaid : Prop := Claim7.holds Tryz.pinned (.plain (OpenSpec.upto fnEscapedSpec)) fnEscapedUptoCard

/-- THE SECOND FORM's CARD OF 'laws.FnFrontLines'. -/
def fnFrontLinesUptoCard : Claim7 := { stood := { row := fnFrontLinesUptoRow, standIns := [], harness := (true, "e4fa89742c93cec316ff2390959f101d86751993b320d959617cf488055ef06b"), looks := false }, kinds := [], alts := [], laidByText := true, laidKinds := [.data, .listed, .data, .sentinel, .data, .pinned, .pinned, .pinned], laidTests := true, laidLooks := .later }
def FnFrontLinesUptoCardSaid : Prop := Claim7.holds Tryz.pinned (.plain (OpenSpec.upto fnFrontLinesSpec)) fnFrontLinesUptoCard

/-- THE SECOND FORM's CARD OF 'laws.FnFrontNone'. -/
def fnFrontNoneUptoCard : Claim7 := { stood := { row := fnFrontNoneUptoRow, standIns := [], harness := (true, "e4fa89742c93cec316ff2390959f101d86751993b320d959617cf488055ef06b"), looks := false }, kinds := [], alts := [], laidByText := true, laidKinds := [.data, .listed, .data, .sentinel, .data, .pinned, .pinned, .pinned], laidTests := true, laidLooks := .later }
def FnFrontNoneUptoCardSaid : Prop := Claim7.holds Tryz.pinned (.plain (OpenSpec.upto fnFrontNoneSpec)) fnFrontNoneUptoCard

/-- THE SECOND FORM's CARD OF 'laws.FnIndented'. -/
def fnIndentedUptoCard : Claim7 := { stood := { row := fnIndentedUptoRow, standIns := [], harness := (true, "e4fa89742c93cec316ff2390959f101d86751993b320d959617cf488055ef06b"), looks := false }, kinds := [], alts := [], laidByText := true, laidKinds := [.data, .listed, .data, .sentinel, .data, .pinned, .pinned, .pinned], laidTests := true, laidLooks := .later }
def FnIndentedUptoCardSaid : Prop := Claim7.holds Tryz.pinned (.plain (OpenSpec.upto fnIndentedSpec)) fnIndentedUptoCard

/-- THE SECOND FORM's CARD OF 'laws.FnInline'. -/
def fnInlineUptoCard : Claim7 := { stood := { row := fnInlineUptoRow, standIns := [], harness := (true, "e4fa89742c93cec316ff2390959f101d86751993b320d959617cf488055ef06b"), looks := false }, kinds := [], alts := [], laidByText := true, laidKinds := [.data, .listed, .data, .sentinel, .data, .pinned, .pinned, .pinned], laidTests := true, laidLooks := .later }
def FnInlineUptoCardSaid : Prop := Claim7.holds Tryz.pinned (.plain (OpenSpec.upto fnInlineSpec)) fnInlineUptoCard

/-- THE SECOND FORM's CARD OF 'laws.FnInlineOther'. -/
def fnInlineOtherUptoCard : Claim7 := { stood := { row := fnInlineOtherUptoRow, standIns := [], harness := (true, "e4fa89742c93cec316ff2390959f101d86751993b320d959617cf488055ef06b"), looks := false }, kinds := [], alts := [], laidByText := true, laidKinds := [.data, .listed, .data, .sentinel, .data, .pinned, .pinned, .pinned], laidTests := true, laidLooks := .later }
def FnInlineOtherUptoCardSaid : Prop := Claim7.holds Tryz.pinned (.plain (OpenSpec.upto fnInlineOtherSpec)) fnInlineOtherUptoCard

/-- THE SECOND FORM's CARD OF 'laws.FnJSON'. -/
def fnJSONUptoCard : Claim7 := { stood := { row := fnJSONUptoRow, standIns := [], harness := (true, "e4fa89742c93cec316ff2390959f101d86751993b320d959617cf488055ef06b"), looks := false }, kinds := [], alts := [], laidByText := true, laidKinds := [.data, .listed, .data, .sentinel, .data, .pinned, .pinned, .pinned], laidTests := true, laidLooks := .later }
def FnJSONUptoCardSaid : Prop := Claim7.holds Tryz.pinned (.plain (OpenSpec.upto fnJSONSpec)) fnJSONUptoCard

/-- THE SECOND FORM's CARD OF 'laws.FnMixed'. -/
def fnMixedUptoCard : Claim7 := { stood := { row := fnMixedUptoRow, standIns := [], harness := (true, "e4fa89742c93cec316ff2390959f101d86751993b320d959617cf488055ef06b"), looks := false }, kinds := [], alts := [], laidByText := true, laidKinds := [.data, .listed, .data, .sentinel, .data, .pinned, .pinned, .pinned], laidTests := true, laidLooks := .later }
def FnMixedUptoCardSaid : Prop := Claim7.holds Tryz.pinned (.plain (OpenSpec.upto fnMixedSpec)) fnMixedUptoCard

/-- THE SECOND FORM's CARD OF 'laws.FnName'. -/
def fnNameUptoCard : Claim7 := { stood := { row := fnNameUptoRow, standIns := [], harness := (true, "e4fa89742c93cec316ff2390959f101d86751993b320d959617cf488055ef06b"), looks := false }, kinds := [], alts := [], laidByText := true, laidKinds := [.data, .listed, .data, .sentinel, .data, .pinned, .pinned, .pinned], laidTests := true, laidLooks := .later }
def FnNameUptoCardSaid : Prop := Claim7.holds Tryz.pinned (.plain (OpenSpec.upto fnNameSpec)) fnNameUptoCard

/-- THE SECOND FORM's CARD OF 'laws.FnNamed'. -/
def fnNamedUptoCard : Claim7 := { stood := { row := fnNamedUptoRow, standIns := [], harness := (true, "e4fa89742c93cec316ff2390959f101d86751993b320d959617cf488055ef06b"), looks := false }, kinds := [], alts := [], laidByText := true, laidKinds := [.data, .listed, .data, .sentinel, .data, .pinned, .pinned, .pinned], laidTests := true, laidLooks := .later }
def FnNamedUptoCardSaid : Prop := Claim7.holds Tryz.pinned (.plain (OpenSpec.upto fnNamedSpec)) fnNamedUptoCard

/-- THE SECOND FORM's CARD OF 'laws.FnNested'. -/
def fnNestedUptoCard : Claim7 := { stood := { row := fnNestedUptoRow, standIns := [], harness := (true, "e4fa89742c93cec316ff2390959f101d86751993b320d959617cf488055ef06b"), looks := false }, kinds := [], alts := [], laidByText := true, laidKinds := [.data, .listed, .data, .sentinel, .data, .pinned, .pinned, .pinned], laidTests := true, laidLooks := .later }
def FnNestedUptoCardSaid : Prop := Claim7.holds Tryz.pinned (.plain (OpenSpec.upto fnNestedSpec)) fnNestedUptoCard
end Rows
end Go.Proofs.YtkehggbmpdacpabGreatDoor
