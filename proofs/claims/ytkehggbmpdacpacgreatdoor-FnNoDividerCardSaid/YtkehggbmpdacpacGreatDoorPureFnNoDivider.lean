/- FnNoDivider: what its row asks of the walk. -/
import Derived.Test.YtkehggbmpdacpacGreatDoorLawFnNoDivider
set_option maxRecDepth 100000
set_option linter.unusedVariables false
set_option linter.unusedSimpArgs false
set_option linter.unusedSectionVars false
namespace Go.Proofs.YtkehggbmpdacpacGreatDoor.Pure
theorem FnNoDivider (W : World) (hL : laidMetH Tryz.prog Rows.fnNoDividerRow.laid W) (a0 : ByteArray) (a1 : Bool) (w0 : a0.size ≤ 140737488351232) : true = true ∧ a0.size ≤ 140737488351232 ∧ Pg.Tab W := ⟨rfl, w0, Pg.tab_of_laid hL⟩
end Go.Proofs.YtkehggbmpdacpacGreatDoor.Pure
