/- FnNamed: what its row asks of the walk. -/
import Derived.Test.YtkehggbmpdacpabGreatDoorLawFnNamed
set_option maxRecDepth 100000
set_option linter.unusedVariables false
set_option linter.unusedSimpArgs false
set_option linter.unusedSectionVars false
namespace Go.Proofs.YtkehggbmpdacpabGreatDoor.Pure
theorem FnNamed (W : World) (hL : laidMetH Tryz.prog Rows.fnNamedRow.laid W) (a0 : Bool) (a1 : ByteArray) (a2 : List ByteArray) (a3 : List ByteArray) (a4 : Bool) (w1 : a1.size ≤ 140737488351232) (w2 : a2.length ≤ 8796093022208) (w3 : a3.length ≤ 8796093022208) : true = true ∧ a1.size ≤ 140737488351232 ∧ a2.length ≤ 8796093022208 ∧ a3.length ≤ 8796093022208 ∧ Pg.Tab W := ⟨rfl, w1, w2, w3, Pg.tab_of_laid hL⟩
end Go.Proofs.YtkehggbmpdacpabGreatDoor.Pure
