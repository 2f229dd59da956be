/-
  DERIVED. GIVEN WITH THE SEED: THE CARDS: each row of YthjddnmfpdcjnaaDoorRows.lean that lists a variable, with what it lists TIED to the program's text (the seventh form; the later family's looks); each row that meets fmt, with fmt's text TOLD by the authors' own Lean function (tested against real Go, not proved from fmt's source: count such statements apart). THE CARD IS WHAT COUNTS. Prove the row's statement (the work); the ties are given (YthjddnmfpdcjnaaDoorTie.lean); close each card by the builder's one call (the guide's Derived/Test/ToyasCard.lean, 'card_holds'). Laid BY PROGRAM, IN A SANDBOX (cutbox-door.mjs). By AI agents, Wed Nov 11 2026. No macro, syntax, notation, axiom, sorry.
-/
import Derived.Test.YthjddnmfpdcjnaaDoorRows
import GoSem.ClaimSeven
namespace Go.Proofs.YthjddnmfpdcjnaaDoor
namespace Rows

/-- THE TIED CARD OF 'laws.FnRawTextSkipped'. -/
def fnRawTextSkippedCard : Claim7 := { stood := { row := fnRawTextSkippedRow, standIns := [], harness := (true, "7d3068fc8bc5b017fd3ce4a5961dee59e257943b04302371cee31ed276f64a14"), looks := false }, kinds := [], alts := [], laidByText := true, laidKinds := [.data, .data, .data, .pinned, .pinned], laidTests := true, laidLooks := .later }
def FnRawTextSkippedCardSaid : Prop := Claim7.holds Tryd.pinned (.plain (OpenSpec.ofChange fnRawTextSkippedSpec)) fnRawTextSkippedCard

/-- THE TIED CARD OF 'laws.FnRawTextUnended'. -/
def fnRawTextUnendedCard : Claim7 := { stood := { row := fnRawTextUnendedRow, standIns := [], harness := (true, "7d3068fc8bc5b017fd3ce4a5961dee59e257943b04302371cee31ed276f64a14"), looks := false }, kinds := [], alts := [], laidByText := true, laidKinds := [.data, .data, .data, .pinned, .pinned], laidTests := true, laidLooks := .later }
def FnRawTextUnendedCardSaid : Prop := Claim7.holds Tryd.pinned (.plain (OpenSpec.ofChange fnRawTextUnendedSpec)) fnRawTextUnendedCard

/-- THE TIED CARD OF 'laws.FnTags'. -/
def fnTagsCard : Claim7 := { stood := { row := fnTagsRow, standIns := [], harness := (true, "7d3068fc8bc5b017fd3ce4a5961dee59e257943b04302371cee31ed276f64a14"), looks := false }, kinds := [], alts := [], laidByText := true, laidKinds := [.data, .data, .data, .pinned, .pinned], laidTests := true, laidLooks := .later }
def FnTagsCardSaid : Prop := Claim7.holds Tryd.pinned (.plain (OpenSpec.ofChange fnTagsSpec)) fnTagsCard

/-- THE TIED CARD OF 'laws.FnTagsAll'. -/
def fnTagsAllCard : Claim7 := { stood := { row := fnTagsAllRow, standIns := [], harness := (true, "7d3068fc8bc5b017fd3ce4a5961dee59e257943b04302371cee31ed276f64a14"), looks := false }, kinds := [], alts := [], laidByText := true, laidKinds := [.data, .data, .data, .pinned, .pinned], laidTests := true, laidLooks := .later }
def FnTagsAllCardSaid : Prop := Claim7.holds Tryd.pinned (.plain (OpenSpec.ofChange fnTagsAllSpec)) fnTagsAllCard

/-- THE TIED CARD OF 'laws.FnTagsBuilt'. -/
def fnTagsBuiltCard : Claim7 := { stood := { row := fnTagsBuiltRow, standIns := [], harness := (true, "7d3068fc8bc5b017fd3ce4a5961dee59e257943b04302371cee31ed276f64a14"), looks := false }, kinds := [], alts := [], laidByText := true, laidKinds := [.data, .data, .data, .pinned, .pinned], laidTests := true, laidLooks := .later }
def FnTagsBuiltCardSaid : Prop := Claim7.holds Tryd.pinned (.plain (OpenSpec.ofChange fnTagsBuiltSpec)) fnTagsBuiltCard

/-- THE TIED CARD OF 'laws.FnTagsComment'. -/
def fnTagsCommentCard : Claim7 := { stood := { row := fnTagsCommentRow, standIns := [], harness := (true, "7d3068fc8bc5b017fd3ce4a5961dee59e257943b04302371cee31ed276f64a14"), looks := false }, kinds := [], alts := [], laidByText := true, laidKinds := [.data, .data, .data, .pinned, .pinned], laidTests := true, laidLooks := .later }
def FnTagsCommentCardSaid : Prop := Claim7.holds Tryd.pinned (.plain (OpenSpec.ofChange fnTagsCommentSpec)) fnTagsCommentCard

/-- THE TIED CARD OF 'laws.FnTagsData'. -/
def fnTagsDataCard : Claim7 := { stood := { row := fnTagsDataRow, standIns := [], harness := (true, "7d3068fc8bc5b017fd3ce4a5961dee59e257943b04302371cee31ed276f64a14"), looks := false }, kinds := [], alts := [], laidByText := true, laidKinds := [.data, .data, .data, .pinned, .pinned], laidTests := true, laidLooks := .later }
def FnTagsDataCardSaid : Prop := Claim7.holds Tryd.pinned (.plain (OpenSpec.ofChange fnTagsDataSpec)) fnTagsDataCard

/-- THE TIED CARD OF 'laws.FnTagsFrom'. -/
def fnTagsFromCard : Claim7 := { stood := { row := fnTagsFromRow, standIns := [], harness := (true, "7d3068fc8bc5b017fd3ce4a5961dee59e257943b04302371cee31ed276f64a14"), looks := false }, kinds := [], alts := [], laidByText := true, laidKinds := [.data, .data, .data, .pinned, .pinned], laidTests := true, laidLooks := .later }
def FnTagsFromCardSaid : Prop := Claim7.holds Tryd.pinned (.plain (OpenSpec.ofChange fnTagsFromSpec)) fnTagsFromCard

/-- THE TIED CARD OF 'laws.FnTagsLess'. -/
def fnTagsLessCard : Claim7 := { stood := { row := fnTagsLessRow, standIns := [], harness := (true, "7d3068fc8bc5b017fd3ce4a5961dee59e257943b04302371cee31ed276f64a14"), looks := false }, kinds := [], alts := [], laidByText := true, laidKinds := [.data, .data, .data, .pinned, .pinned], laidTests := true, laidLooks := .later }
def FnTagsLessCardSaid : Prop := Claim7.holds Tryd.pinned (.plain (OpenSpec.ofChange fnTagsLessSpec)) fnTagsLessCard

/-- THE TIED CARD OF 'laws.FnTagsLimit'. -/
def fnTagsLimitCard : Claim7 := { stood := { row := fnTagsLimitRow, standIns := [], harness := (true, "7d3068fc8bc5b017fd3ce4a5961dee59e257943b04302371cee31ed276f64a14"), looks := false }, kinds := [], alts := [], laidByText := true, laidKinds := [.data, .data, .data, .pinned, .pinned], laidTests := true, laidLooks := .later }
def FnTagsLimitCardSaid : Prop := Claim7.holds Tryd.pinned (.plain (OpenSpec.ofChange fnTagsLimitSpec)) fnTagsLimitCard

/-- THE TIED CARD OF 'laws.FnTagsMany'. -/
def fnTagsManyCard : Claim7 := { stood := { row := fnTagsManyRow, standIns := [], harness := (true, "7d3068fc8bc5b017fd3ce4a5961dee59e257943b04302371cee31ed276f64a14"), looks := false }, kinds := [], alts := [], laidByText := true, laidKinds := [.data, .data, .data, .pinned, .pinned], laidTests := true, laidLooks := .later }
def FnTagsManyCardSaid : Prop := Claim7.holds Tryd.pinned (.plain (OpenSpec.ofChange fnTagsManySpec)) fnTagsManyCard

/-- THE TIED CARD OF 'laws.FnTagsNone'. -/
def fnTagsNoneCard : Claim7 := { stood := { row := fnTagsNoneRow, standIns := [], harness := (true, "7d3068fc8bc5b017fd3ce4a5961dee59e257943b04302371cee31ed276f64a14"), looks := false }, kinds := [], alts := [], laidByText := true, laidKinds := [.data, .data, .data, .pinned, .pinned], laidTests := true, laidLooks := .later }
def FnTagsNoneCardSaid : Prop := Claim7.holds Tryd.pinned (.plain (OpenSpec.ofChange fnTagsNoneSpec)) fnTagsNoneCard

/-- THE TIED CARD OF 'laws.FnTagsUnended'. -/
def fnTagsUnendedCard : Claim7 := { stood := { row := fnTagsUnendedRow, standIns := [], harness := (true, "7d3068fc8bc5b017fd3ce4a5961dee59e257943b04302371cee31ed276f64a14"), looks := false }, kinds := [], alts := [], laidByText := true, laidKinds := [.data, .data, .data, .pinned, .pinned], laidTests := true, laidLooks := .later }
def FnTagsUnendedCardSaid : Prop := Claim7.holds Tryd.pinned (.plain (OpenSpec.ofChange fnTagsUnendedSpec)) fnTagsUnendedCard

/-- THE SECOND FORM's CARD OF 'laws.FnRawTextSkipped'. -/
def fnRawTextSkippedUptoCard : Claim7 := { stood := { row := fnRawTextSkippedUptoRow, standIns := [], harness := (true, "7d3068fc8bc5b017fd3ce4a5961dee59e257943b04302371cee31ed276f64a14"), looks := false }, kinds := [], alts := [], laidByText := true, laidKinds := [.data, .data, .data, .pinned, .pinned], laidTests := true, laidLooks := .later }
def FnRawTextSkippedUptoCardSaid : Prop := Claim7.holds Tryd.pinned (.plain (OpenSpec.upto fnRawTextSkippedSpec)) fnRawTextSkippedUptoCard

/-- THE SECOND FORM's CARD OF 'laws.FnRawTextUnended'. -/
def fnRawTextUnendedUptoCard : Claim7 := { stood := { row := fnRawTextUnendedUptoRow, standIns := [], harness := (true, "7d3068fc8bc5b017fd3ce4a5961dee59e257943b04302371cee31ed276f64a14"), looks := false }, kinds := [], alts := [], laidByText := true, laidKinds := [.data, .data, .data, .pinned, .pinned], laidTests := true, laidLooks := .later }
def FnRawTextUnendedUptoCardSaid : Prop := Claim7.holds Tryd.pinned (.plain (OpenSpec.upto fnRawTextUnendedSpec)) fnRawTextUnendedUptoCard

/-- THE SECOND FORM's CARD OF 'laws.FnTags'. -/
def fnTagsUptoCard : Claim7 := { stood := { row := fnTagsUptoRow, standIns := [], harness := (true, "7d3068fc8bc5b017fd3ce4a5961dee59e257943b04302371cee31ed276f64a14"), looks := false }, kinds := [], alts := [], laidByText := true, laidKinds := [.data, .data, .data, .pinned, .pinned], laidTests := true, laidLooks := .later }
def FnTagsUptoCardSaid : Prop := Claim7.holds Tryd.pinned (.plain (OpenSpec.upto fnTagsSpec)) fnTagsUptoCard

/-- THE SECOND FORM's CARD OF 'laws.FnTagsAll'. -/
def fnTagsAllUptoCard : Claim7 := { stood := { row := fnTagsAllUptoRow, standIns := [], harness := (true, "7d3068fc8bc5b017fd3ce4a5961dee59e257943b04302371cee31ed276f64a14"), looks := false }, kinds := [], alts := [], laidByText := true, laidKinds := [.data, .data, .data, .pinned, .pinned], laidTests := true, laidLooks := .later }
def FnTagsAllUptoCardSaid : Prop := Claim7.holds Tryd.pinned (.plain (OpenSpec.upto fnTagsAllSpec)) fnTagsAllUptoCard

/-- THE SECOND FORM's CARD OF 'laws.FnTagsBuilt'. -/
def fnTagsBuiltUptoCard : Claim7 := { stood := { row := fnTagsBuiltUptoRow, standIns := [], harness := (true, "7d3068fc8bc5b017fd3ce4a5961dee59e257943b04302371cee31ed276f64a14"), looks := false }, kinds := [], alts := [], laidByText := true, laidKinds := [.data, .data, .data, .pinned, .pinned], laidTests := true, laidLooks := .later }
def FnTagsBuiltUptoCardSaid : Prop := Claim7.holds Tryd.pinned (.plain (OpenSpec.upto fnTagsBuiltSpec)) fnTagsBuiltUptoCard

/-- THE SECOND FORM's CARD OF 'laws.FnTagsComment'. -/
def fnTagsCommentUptoCard : Claim7 := { stood := { row := fnTagsCommentUptoRow, standIns := [], harness := (true, "7d3068fc8bc5b017fd3ce4a5961dee59e257943b04302371cee31ed276f64a14"), looks := false }, kinds := [], alts := [], laidByText := true, laidKinds := [.data, .data, .data, .pinned, .pinned], laidTests := true, laidLooks := .later }
def FnTagsCommentUptoCardSaid : Prop := Claim7.holds Tryd.pinned (.plain (OpenSpec.upto fnTagsCommentSpec)) fnTagsCommentUptoCard

/-- THE SECOND FORM's CARD OF 'laws.FnTagsData'. -/
def fnTagsDataUptoCard : Claim7 := { stood := { row := fnTagsDataUptoRow, standIns := [], harness := (true, "7d3068fc8bc5b017fd3ce4a5961dee59e257943b04302371cee31ed276f64a14"), looks := false }, kinds := [], alts := [], laidByText := true, laidKinds := [.data, .data, .data, .pinned, .pinned], laidTests := true, laidLooks := .later }
def FnTagsDataUptoCardSaid : Prop := Claim7.holds Tryd.pinned (.plain (OpenSpec.upto fnTagsDataSpec)) fnTagsDataUptoCard

/-- THE SECOND FORM's CARD OF 'laws.FnTagsFrom'. -/
def fnTagsFromUptoCard : Claim7 := { stood := { row := fnTagsFromUptoRow, standIns := [], harness := (true, "7d3068fc8bc5b017fd3ce4a5961dee59e257943b04302371cee31ed276f64a14"), looks := false }, kinds := [], alts := [], laidByText := true, laidKinds := [.data, .data, .data, .pinned, .pinned], laidTests := true, laidLooks := .later }
def FnTagsFromUptoCardSaid : Prop := Claim7.holds Tryd.pinned (.plain (OpenSpec.upto fnTagsFromSpec)) fnTagsFromUptoCard

/-- THE SECOND FORM's CARD OF 'laws.FnTagsLess'. -/
def fnTagsLessUptoCard : Claim7 := { stood := { row := fnTagsLessUptoRow, standIns := [], harness := (true, "7d3068fc8bc5b017fd3ce4a5961dee59e257943b04302371cee31ed276f64a14"), looks := false }, kinds := [], alts := [], laidByText := true, laidKinds := [.data, .data, .data, .pinned, .pinned], laidTests := true, laidLooks := .later }
def FnTagsLessUptoCardSaid : Prop := Claim7.holds Tryd.pinned (.plain (OpenSpec.upto fnTagsLessSpec)) fnTagsLessUptoCard

/-- THE SECOND FORM's CARD OF 'laws.FnTagsLimit'. -/
def fnTagsLimitUptoCard : Claim7 := { stood := { row := fnTagsLimitUptoRow, standIns := [], harness := (true, "7d3068fc8bc5b017fd3ce4a5961dee59e257943b04302371cee31ed276f64a14"), looks := false }, kinds := [], alts := [], laidByText := true, laidKinds := [.data, .data, .data, .pinned, .pinned], laidTests := true, laidLooks := .later }
def FnTagsLimitUptoCardSaid : Prop := Claim7.holds Tryd.pinned (.plain (OpenSpec.upto fnTagsLimitSpec)) fnTagsLimitUptoCard

/-- THE SECOND FORM's CARD OF 'laws.FnTagsMany'. -/
def fnTagsManyUptoCard : Claim7 := { stood := { row := fnTagsManyUptoRow, standIns := [], harness := (true, "7d3068fc8bc5b017fd3ce4a5961dee59e257943b04302371cee31ed276f64a14"), looks := false }, kinds := [], alts := [], laidByText := true, laidKinds := [.data, .data, .data, .pinned, .pinned], laidTests := true, laidLooks := .later }
def FnTagsManyUptoCardSaid : Prop := Claim7.holds Tryd.pinned (.plain (OpenSpec.upto fnTagsManySpec)) fnTagsManyUptoCard

/-- THE SECOND FORM's CARD OF 'laws.FnTagsNone'. -/
def fnTagsNoneUptoCard : Claim7 := { stood := { row := fnTagsNoneUptoRow, standIns := [], harness := (true, "7d3068fc8bc5b017fd3ce4a5961dee59e257943b04302371cee31ed276f64a14"), looks := false }, kinds := [], alts := [], laidByText := true, laidKinds := [.data, .data, .data, .pinned, .pinned], laidTests := true, laidLooks := .later }
def FnTagsNoneUptoCardSaid : Prop := Claim7.holds Tryd.pinned (.plain (OpenSpec.upto fnTagsNoneSpec)) fnTagsNoneUptoCard

/-- THE SECOND FORM's CARD OF 'laws.FnTagsUnended'. -/
def fnTagsUnendedUptoCard : Claim7 := { stood := { row := fnTagsUnendedUptoRow, standIns := [], harness := (true, "7d3068fc8bc5b017fd3ce4a5961dee59e257943b04302371cee31ed276f64a14"), looks := false }, kinds := [], alts := [], laidByText := true, laidKinds := [.data, .data, .data, .pinned, .pinned], laidTests := true, laidLooks := .later }
def FnTagsUnendedUptoCardSaid : Prop := Claim7.holds Tryd.pinned (.plain (OpenSpec.upto fnTagsUnendedSpec)) fnTagsUnendedUptoCard
end Rows
end Go.Proofs.YthjddnmfpdcjnaaDoor
