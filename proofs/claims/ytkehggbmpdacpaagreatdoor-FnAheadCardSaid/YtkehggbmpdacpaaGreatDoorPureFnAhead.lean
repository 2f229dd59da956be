/- FnAhead: what its row asks of the walk. -/
import Derived.Test.YtkehggbmpdacpaaGreatDoorLawFnAhead
set_option maxRecDepth 100000
set_option linter.unusedVariables false
set_option linter.unusedSimpArgs false
set_option linter.unusedSectionVars false
namespace Go.Proofs.YtkehggbmpdacpaaGreatDoor.Pure
theorem FnAhead (W : World) (hL : laidMetH Tryz.prog Rows.fnAheadRow.laid W) (a0 : ByteArray) (a1 : ByteArray) (w0 : a0.size ≤ 140737488351232) (w1 : a1.size ≤ 140737488351232) : true = true ∧ a0.size ≤ 140737488351232 ∧ a1.size ≤ 140737488351232 ∧ Pg.Tab W := ⟨rfl, w0, w1, Pg.tab_of_laid hL⟩
end Go.Proofs.YtkehggbmpdacpaaGreatDoor.Pure
