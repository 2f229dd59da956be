/- FnInlineOther: what its row asks of the walk. -/
import Derived.Test.YtkehggbmpdacpabGreatDoorLawFnInlineOther
set_option maxRecDepth 100000
set_option linter.unusedVariables false
set_option linter.unusedSimpArgs false
set_option linter.unusedSectionVars false
namespace Go.Proofs.YtkehggbmpdacpabGreatDoor.Pure
theorem FnInlineOther (W : World) (hL : laidMetH Tryz.prog Rows.fnInlineOtherRow.laid W) (a0 : Bool) (a1 : ByteArray) (a2 : ByteArray) (a3 : ByteArray) (w1 : a1.size ≤ 140737488351232) (w2 : a2.size ≤ 140737488351232) (w3 : a3.size ≤ 140737488351232) : true = true ∧ a1.size ≤ 140737488351232 ∧ a2.size ≤ 140737488351232 ∧ a3.size ≤ 140737488351232 ∧ Pg.Tab W := ⟨rfl, w1, w2, w3, Pg.tab_of_laid hL⟩
end Go.Proofs.YtkehggbmpdacpabGreatDoor.Pure
