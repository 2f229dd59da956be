/- FnTagsUnended: what its row asks of the walk. -/
import Derived.Test.YthjddnmfpdcjnaaDoorLawFnTagsUnended
namespace Go.Proofs.YthjddnmfpdcjnaaDoor.Pure
theorem FnTagsUnended (a0 : ByteArray) (a1 : ByteArray) (a2 : ByteArray) (w0 : a0.size ≤ 140737488351232) (w1 : a1.size ≤ 140737488351232) (w2 : a2.size ≤ 140737488351232) : true = true ∧ a0.size ≤ 140737488351232 ∧ a1.size ≤ 140737488351232 ∧ a2.size ≤ 140737488351232 := ⟨rfl, w0, w1, w2⟩
end Go.Proofs.YthjddnmfpdcjnaaDoor.Pure
