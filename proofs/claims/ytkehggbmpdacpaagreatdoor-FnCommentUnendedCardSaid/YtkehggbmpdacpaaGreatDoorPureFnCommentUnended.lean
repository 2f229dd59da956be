/- FnCommentUnended: what its row asks of the walk. -/
import Derived.Test.YtkehggbmpdacpaaGreatDoorLawFnCommentUnended
set_option maxRecDepth 100000
set_option linter.unusedVariables false
set_option linter.unusedSimpArgs false
set_option linter.unusedSectionVars false
namespace Go.Proofs.YtkehggbmpdacpaaGreatDoor.Pure
theorem FnCommentUnended (W : World) (hL : laidMetH Tryz.prog Rows.fnCommentUnendedRow.laid W) (a0 : Bool) (a1 : ByteArray) (w1 : a1.size ≤ 140737488351232) : true = true ∧ a1.size ≤ 140737488351232 ∧ Pg.Tab W := ⟨rfl, w1, Pg.tab_of_laid hL⟩
end Go.Proofs.YtkehggbmpdacpaaGreatDoor.Pure
