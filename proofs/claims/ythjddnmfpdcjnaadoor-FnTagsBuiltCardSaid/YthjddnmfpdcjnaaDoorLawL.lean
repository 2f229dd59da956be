/- What the row's listed variables hold, as the contracts of the library want it; lower case of any text. -/
import Derived.Test.YthjddnmfpdcjnaaDoorLawD
import Derived.Test.YthjddnmfpdcjnaaDoorRows
import Derived.PinnedBridge
import Derived.LaidMore
import Derived.MakeChecks
set_option linter.unusedVariables false
namespace Go.Proofs.YthjddnmfpdcjnaaDoor.LawL
open Go.Rx hiding bt
open Go.Lib
open Go.RowKit Go.Proofs.YthjddnmfpdcjnaaDoorW.PrintWords Go.Proofs.YthjddnmfpdcjnaaDoor.Lib0 Go.Proofs.YthjddnmfpdcjnaaDoor.LawC

structure Tabs (w : World) : Prop where
  case : CaseVar 2 caseA w
  utf8 : Lib.Utf8Tabs 4 5 w
theorem tabs_of_laid {W : World} (hL : laidMetH Tryd.prog Rows.fnTagsLimitRow.laid W) : Tabs W := by
  rw [MakeChecks.laidMetH_plain _ _ _ (by kernel_rfl)] at hL
  have h0 := Lib.laidMet.reads hL (n := "unicode/utf8.acceptRanges") (d := Rows.laid_unicode_utf8_acceptRanges) (.head _)
  have h3 := Lib.laidMet.reads hL (n := "unicode.CaseRanges") (d := Rows.laid_unicode_CaseRanges) (.tail _ (.tail _ (.tail _ (.head _))))
  have h4 := Lib.laidMet.reads hL (n := "unicode/utf8.first") (d := Rows.laid_unicode_utf8_first) (.tail _ (.tail _ (.tail _ (.tail _ (.head _)))))
  have e0 : (Rows.laid_unicode_utf8_acceptRanges : DataW Unit) = acceptData := by kernel_rfl
  have e3 : Rows.laid_unicode_CaseRanges = caseData := Pinned.caseRanges_eq
  have e4 : Rows.laid_unicode_utf8_first = firstData := Pinned.utf8First_eq
  rw [e0] at h0
  rw [e3] at h3
  rw [e4] at h4
  exact ⟨caseVar_of_reads (ρ := Tryd.lays159_ren) { Tryd.lays159 with } Tryd.lays159.t206 ⟨by kernel_rfl, by kernel_rfl, by kernel_rfl, by kernel_rfl, by kernel_rfl, by kernel_rfl⟩ h3,
    utf8Tabs_of_reads (ρ := Tryd.lays159_ren) { Tryd.lays159 with } ⟨by kernel_rfl, by kernel_rfl, by kernel_rfl, by kernel_rfl, by kernel_rfl, by kernel_rfl, by kernel_rfl⟩ h4 h0⟩
/-- Small letters in the place of great ones, of any text that is not too long. -/
def lowerD (s : ByteArray) : Option ByteArray := if s.size < 35184372088832 then some ⟨(Lib.toLowerD s.data.toList).toArray⟩ else none
theorem hlowD {w0 : World} (h : Tabs w0) : ∀ x r, lowerD x = some r → ∀ w', Evo (fun _ => False) w0 w' → Calls Tryd.prog 41 #[.string x] w' fun e w'' => e = .returned (.string r) ∧ Below w'.heap.size w' w'' := by
  intro x r hx w' hw'
  unfold lowerD at hx
  split at hx
  · rename_i hs
    cases hx
    have hb : Below w0.heap.size w0 w' := hw'.below (fun k _ h => h) (Nat.le_refl _)
    exact Tryd.strings_ToLower_any x w' hs (CaseVar_below h.case hb) (Utf8Tabs_below h.utf8 hb)
  · cases hx
theorem lowerD_some {s : ByteArray} (hs : s.size ≤ 4294967280) : ∀ x : ByteArray, x.size ≤ s.size → ∃ r, lowerD x = some r := fun x hx => ⟨_, by unfold lowerD; rw [if_pos (by omega)]⟩
end Go.Proofs.YthjddnmfpdcjnaaDoor.LawL
