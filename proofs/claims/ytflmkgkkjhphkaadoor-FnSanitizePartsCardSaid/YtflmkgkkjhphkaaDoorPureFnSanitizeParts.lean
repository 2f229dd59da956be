/- FnSanitizeParts: what its row asks of the walk. -/
import Derived.Test.YtflmkgkkjhphkaaDoorLawFnSanitizeParts
namespace Go.Proofs.YtflmkgkkjhphkaaDoor.Pure
theorem FnSanitizeParts (W : World) (hL : laidMetH Tryd.prog Rows.fnSanitizePartsRow.laid W) (a0 : List ByteArray) (w0 : a0.length ≤ 8796093022208) : true = true ∧ a0.length ≤ 8796093022208 ∧ SanC.Uni W := ⟨rfl, w0, SanC.uni_of_laid hL⟩
end Go.Proofs.YtflmkgkkjhphkaaDoor.Pure
