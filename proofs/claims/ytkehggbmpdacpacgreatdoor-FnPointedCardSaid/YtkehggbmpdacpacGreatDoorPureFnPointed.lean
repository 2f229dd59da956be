/- FnPointed: what its row asks of the walk. -/
import Derived.Test.YtkehggbmpdacpacGreatDoorLawFnPointed
set_option maxRecDepth 100000
set_option linter.unusedVariables false
set_option linter.unusedSimpArgs false
set_option linter.unusedSectionVars false
namespace Go.Proofs.YtkehggbmpdacpacGreatDoor.Pure
theorem FnPointed (W : World) (hL : laidMetH Tryz.prog Rows.fnPointedRow.laid W) (a0 : Bool) (a1 : ByteArray) (a2 : ByteArray) (w1 : a1.size ≤ 140737488351232) (w2 : a2.size ≤ 140737488351232) : true = true ∧ a1.size ≤ 140737488351232 ∧ a2.size ≤ 140737488351232 ∧ Pg.Tab W := ⟨rfl, w1, w2, Pg.tab_of_laid hL⟩
end Go.Proofs.YtkehggbmpdacpacGreatDoor.Pure
