/- FnQuoteUnended: what its row asks of the walk. -/
import Derived.Test.YtkehggbmpdacpacGreatDoorLawFnQuoteUnended
set_option maxRecDepth 100000
set_option linter.unusedVariables false
set_option linter.unusedSimpArgs false
set_option linter.unusedSectionVars false
namespace Go.Proofs.YtkehggbmpdacpacGreatDoor.Pure
theorem FnQuoteUnended (W : World) (hL : laidMetH Tryz.prog Rows.fnQuoteUnendedRow.laid W) (a0 : Bool) (a1 : ByteArray) (a2 : ByteArray) (a3 : Int) (w1 : a1.size ≤ 140737488351232) (w2 : a2.size ≤ 140737488351232) (w3 : (Lit.int .u8 a3).wf = true) : true = true ∧ a1.size ≤ 140737488351232 ∧ a2.size ≤ 140737488351232 ∧ (0 ≤ a3 ∧ a3 ≤ 255) ∧ Pg.Tab W := ⟨rfl, w1, w2, (by have := w3; simp [Lit.wf, IntKind.min, IntKind.max, IntKind.bits, IntKind.signed] at this; omega), Pg.tab_of_laid hL⟩
end Go.Proofs.YtkehggbmpdacpacGreatDoor.Pure
