/- FnOnce: what its row asks of the walk. -/
import Derived.Test.YtkehggbmpdacpacGreatDoorLawFnOnce
set_option maxRecDepth 100000
set_option linter.unusedVariables false
set_option linter.unusedSimpArgs false
set_option linter.unusedSectionVars false
namespace Go.Proofs.YtkehggbmpdacpacGreatDoor.Pure
theorem FnOnce (W : World) (hL : laidMetH Tryz.prog Rows.fnOnceRow.laid W) (a0 : ByteArray) (a1 : ByteArray) (a2 : ByteArray) (w0 : a0.size ≤ 140737488351232) (w1 : a1.size ≤ 140737488351232) (w2 : a2.size ≤ 140737488351232) : true = true ∧ a0.size ≤ 140737488351232 ∧ a1.size ≤ 140737488351232 ∧ a2.size ≤ 140737488351232 ∧ Pg.Tab W := ⟨rfl, w0, w1, w2, Pg.tab_of_laid hL⟩
end Go.Proofs.YtkehggbmpdacpacGreatDoor.Pure
