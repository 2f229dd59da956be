/- FnJSON: what its row asks of the walk. -/
import Derived.Test.YtkehggbmpdacpabGreatDoorLawFnJSON
set_option maxRecDepth 100000
set_option linter.unusedVariables false
set_option linter.unusedSimpArgs false
set_option linter.unusedSectionVars false
namespace Go.Proofs.YtkehggbmpdacpabGreatDoor.Pure
theorem FnJSON (W : World) (hL : laidMetH Tryz.prog Rows.fnJSONRow.laid W) (a0 : List ByteArray) (a1 : ByteArray) (a2 : Bool) (w0 : a0.length ≤ 8796093022208) (w1 : a1.size ≤ 140737488351232) : true = true ∧ a0.length ≤ 8796093022208 ∧ a1.size ≤ 140737488351232 ∧ Pg.Tab W := ⟨rfl, w0, w1, Pg.tab_of_laid hL⟩
end Go.Proofs.YtkehggbmpdacpabGreatDoor.Pure
