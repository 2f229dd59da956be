/- FnSanitizeWords: what its row asks of the walk. -/
import Derived.Test.YtflmkgkkjhphkaaDoorLawFnSanitizeWords
namespace Go.Proofs.YtflmkgkkjhphkaaDoor.Pure
theorem FnSanitizeWords (W : World) (hL : laidMetH Tryd.prog Rows.fnSanitizeWordsRow.laid W) (a0 : List ByteArray) (a1 : List Int) (w0 : a0.length ≤ 8796093022208) (w1 : a1.length ≤ 140737488351232) (b1 : ∀ x ∈ a1, 0 ≤ x ∧ x ≤ 255) : true = true ∧ a0.length ≤ 8796093022208 ∧ a1.length ≤ 140737488351232 ∧ (∀ x ∈ a1, 0 ≤ x ∧ x ≤ 255) ∧ SanC.Uni W := ⟨rfl, w0, w1, b1, SanC.uni_of_laid hL⟩
end Go.Proofs.YtflmkgkkjhphkaaDoor.Pure
