/- FnFrontNone: what its row asks of the walk. -/
import Derived.Test.YtkehggbmpdacpabGreatDoorLawFnFrontNone
set_option maxRecDepth 100000
set_option linter.unusedVariables false
set_option linter.unusedSimpArgs false
set_option linter.unusedSectionVars false
namespace Go.Proofs.YtkehggbmpdacpabGreatDoor.Pure
theorem FnFrontNone (W : World) (hL : laidMetH Tryz.prog Rows.fnFrontNoneRow.laid W) (a0 : ByteArray) (a1 : Bool) (w0 : a0.size ≤ 140737488351232) : true = true ∧ a0.size ≤ 140737488351232 ∧ Pg.Tab W := ⟨rfl, w0, Pg.tab_of_laid hL⟩
end Go.Proofs.YtkehggbmpdacpabGreatDoor.Pure
