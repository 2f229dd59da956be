/- FnSanitizeTwice: what its row asks of the walk. -/
import Derived.Test.YtflmkgkkjhphkaaDoorLawFnSanitizeTwice
namespace Go.Proofs.YtflmkgkkjhphkaaDoor.Pure
theorem FnSanitizeTwice (W : World) (hL : laidMetH Tryd.prog Rows.fnSanitizeTwiceRow.laid W) (a0 : ByteArray) (w0 : a0.size ≤ 140737488351232) : true = true ∧ a0.size ≤ 140737488351232 ∧ SanC.Uni W := ⟨rfl, w0, SanC.uni_of_laid hL⟩
end Go.Proofs.YtflmkgkkjhphkaaDoor.Pure
