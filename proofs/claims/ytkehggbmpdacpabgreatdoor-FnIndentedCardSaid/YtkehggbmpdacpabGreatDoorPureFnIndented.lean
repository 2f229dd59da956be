/- FnIndented: what its row asks of the walk. -/
import Derived.Test.YtkehggbmpdacpabGreatDoorLawFnIndented
set_option maxRecDepth 100000
set_option linter.unusedVariables false
set_option linter.unusedSimpArgs false
set_option linter.unusedSectionVars false
namespace Go.Proofs.YtkehggbmpdacpabGreatDoor.Pure
theorem FnIndented (W : World) (hL : laidMetH Tryz.prog Rows.fnIndentedRow.laid W) (a0 : Bool) (a1 : ByteArray) (a2 : Int) (a3 : ByteArray) (w1 : a1.size ≤ 140737488351232) (w2 : (Lit.int .u8 a2).wf = true) (w3 : a3.size ≤ 140737488351232) : true = true ∧ a1.size ≤ 140737488351232 ∧ (0 ≤ a2 ∧ a2 ≤ 255) ∧ a3.size ≤ 140737488351232 ∧ Pg.Tab W := ⟨rfl, w1, (by have := w2; simp [Lit.wf, IntKind.min, IntKind.max, IntKind.bits, IntKind.signed] at this; omega), w3, Pg.tab_of_laid hL⟩
end Go.Proofs.YtkehggbmpdacpabGreatDoor.Pure
