/- FnEscaped: what its row asks of the walk. -/
import Derived.Test.YtkehggbmpdacpabGreatDoorLawFnEscaped
set_option maxRecDepth 100000
set_option linter.unusedVariables false
set_option linter.unusedSimpArgs false
set_option linter.unusedSectionVars false
namespace Go.Proofs.YtkehggbmpdacpabGreatDoor.Pure
theorem FnEscaped (W : World) (hL : laidMetH Tryz.prog Rows.fnEscapedRow.laid W) (a0 : ByteArray) (a1 : ByteArray) (a2 : List ByteArray) (w0 : a0.size ≤ 140737488351232) (w1 : a1.size ≤ 140737488351232) (w2 : a2.length ≤ 8796093022208) : true = true ∧ a0.size ≤ 140737488351232 ∧ a1.size ≤ 140737488351232 ∧ a2.length ≤ 8796093022208 ∧ Pg.Tab W := ⟨rfl, w0, w1, w2, Pg.tab_of_laid hL⟩
end Go.Proofs.YtkehggbmpdacpabGreatDoor.Pure
