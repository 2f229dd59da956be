/- FnFrontLines: what its row asks of the walk. -/
import Derived.Test.YtkehggbmpdacpabGreatDoorLawFnFrontLines
set_option maxRecDepth 100000
set_option linter.unusedVariables false
set_option linter.unusedSimpArgs false
set_option linter.unusedSectionVars false
namespace Go.Proofs.YtkehggbmpdacpabGreatDoor.Pure
theorem FnFrontLines (W : World) (hL : laidMetH Tryz.prog Rows.fnFrontLinesRow.laid W) (a0 : Bool) (a1 : List ByteArray) (a2 : ByteArray) (a3 : Bool) (w1 : a1.length ≤ 8796093022208) (w2 : a2.size ≤ 140737488351232) : true = true ∧ a1.length ≤ 8796093022208 ∧ a2.size ≤ 140737488351232 ∧ Pg.Tab W := ⟨rfl, w1, w2, Pg.tab_of_laid hL⟩
end Go.Proofs.YtkehggbmpdacpabGreatDoor.Pure
