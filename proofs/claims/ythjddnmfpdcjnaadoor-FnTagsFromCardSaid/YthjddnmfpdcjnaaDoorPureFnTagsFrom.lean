/- FnTagsFrom: what its row asks of the walk. -/
import Derived.Test.YthjddnmfpdcjnaaDoorLawFnTagsFrom
namespace Go.Proofs.YthjddnmfpdcjnaaDoor.Pure
theorem FnTagsFrom (W : World) (hL : laidMetH Tryd.prog Rows.fnTagsFromRow.laid W) (a0 : ByteArray) (a1 : ByteArray) (a2 : Int) (w0 : a0.size ≤ 140737488351232) (w1 : a1.size ≤ 140737488351232) (w2 : (Lit.int .u8 a2).wf = true) : true = true ∧ a0.size ≤ 140737488351232 ∧ a1.size ≤ 140737488351232 ∧ (0 ≤ a2 ∧ a2 ≤ 255) ∧ LawL.Tabs W := ⟨rfl, w0, w1, (by have := w2; simp [Lit.wf, IntKind.min, IntKind.max, IntKind.bits, IntKind.signed] at this; omega), LawL.tabs_of_laid hL⟩
end Go.Proofs.YthjddnmfpdcjnaaDoor.Pure
