/- What the row's listed variables hold, as the contracts of package unicode want it. -/
import Derived.Test.YtflmkgkkjhphkaaDoorSanK
import Derived.Test.YtflmkgkkjhphkaaDoorRows
import Derived.PinnedBridge
import Derived.LaidMore
import Derived.MakeChecks
import Derived.Lib.LaidRTab
import Derived.Lib.LaidU8
import Derived.Lib.LaidTab
set_option linter.unusedVariables false
namespace Go.Proofs.YtflmkgkkjhphkaaDoor.SanC
open Go.Rx
open Go.Lib
open Go.RowKit
theorem tabIs_of_reads {P : Program} {W : World} {name : String} {k : IntKind} {zs : List Int} {g : Nat} {t e : TypeId} {n : Nat}
    (hg : P.globalNamed name = some g) (hty : (P.globals[g]?).map (·.type) = some t) (ht : P.underlying t = some (.array n e)) (he : P.underlying e = some (.int k)) (hce : P.cellsOf e = 1) (hct : P.cellsOf t = n)
    (h : VarReads P W name (tabData k zs)) : TabIs P W name k zs := by
  obtain ⟨g', t', cs, fuel, p, hg', ht', hvar, hd⟩ := h
  obtain rfl := Option.some.inj (hg.symm.trans hg')
  obtain rfl := Option.some.inj (hty.symm.trans ht')
  unfold TabIs
  rw [hvar, ← cells_of_tab ht he hce hct hd]
theorem uni_of_laid {W : World} (hL : laidMetH Tryd.prog Rows.fnSanitizeRow.laid W) : Uni W := by
  rw [MakeChecks.laidMetH_plain _ _ _ (by kernel_rfl)] at hL
  have h0 := Lib.laidMet.reads hL (n := "unicode.White_Space") (d := Rows.laid_unicode_White_Space) (.head _)
  have h1 := Lib.laidMet.reads hL (n := "unicode.properties") (d := Rows.laid_unicode_properties) (.tail _ (.head _))
  have h2 := Lib.laidMet.reads hL (n := "unicode.Digit") (d := Rows.laid_unicode_Digit) (.tail _ (.tail _ (.head _)))
  have h3 := Lib.laidMet.reads hL (n := "unicode.Letter") (d := Rows.laid_unicode_Letter) (.tail _ (.tail _ (.tail _ (.head _))))
  have h4 := Lib.laidMet.reads hL (n := "unicode.Mark") (d := Rows.laid_unicode_Mark) (.tail _ (.tail _ (.tail _ (.tail _ (.head _)))))
  have e0 : (Rows.laid_unicode_White_Space : DataW Unit) = whiteData := by kernel_rfl
  have e1 : (Rows.laid_unicode_properties : DataW Unit) = tabData .u8 propertiesTab := by kernel_rfl
  have e2 : Rows.laid_unicode_Digit = rtabData digitT := Pinned.digit_eq
  have e3 : Rows.laid_unicode_Letter = rtabData letterT := Pinned.letter_eq
  have e4 : Rows.laid_unicode_Mark = rtabData markT := Pinned.mark_eq
  rw [e0] at h0
  rw [e1] at h1
  rw [e2] at h2
  rw [e3] at h3
  rw [e4] at h4
  have L : Lays.n261 Tryd.prog Tryd.lays198_ren := { Tryd.lays198 with }
  have X : RExtra Tryd.prog Tryd.lays198_ren := ⟨by kernel_rfl, by kernel_rfl, by kernel_rfl, by kernel_rfl, by kernel_rfl, by kernel_rfl, by kernel_rfl, by kernel_rfl⟩
  exact ⟨tabIs_of_reads (g := 1) (t := 36) (e := 5) (n := 256) (by kernel_rfl) (by kernel_rfl) (by kernel_rfl) (by kernel_rfl) (by kernel_rfl) (by kernel_rfl) h1,
    rvar_of_reads L X (by kernel_rfl) (by kernel_rfl) h3, rvar_of_reads L X (by kernel_rfl) (by kernel_rfl) h2, rvar_of_reads L X (by kernel_rfl) (by kernel_rfl) h4,
    whiteTab_of_reads Tryd.lays199 ⟨by kernel_rfl, by kernel_rfl, by kernel_rfl, by kernel_rfl, by kernel_rfl, by kernel_rfl, by kernel_rfl, by kernel_rfl⟩ h0⟩
end Go.Proofs.YtflmkgkkjhphkaaDoor.SanC
