/- FnTagsLess: what its row asks of the walk. -/
import Derived.Test.YthjddnmfpdcjnaaDoorLawFnTagsLess
namespace Go.Proofs.YthjddnmfpdcjnaaDoor.Pure
theorem FnTagsLess (a0 a1 : ByteArray) (w0 : a0.size ≤ 140737488351232) (w1 : a1.size ≤ 140737488351232) : true = true ∧ a0.size ≤ 140737488351232 ∧ a1.size ≤ 140737488351232 := ⟨rfl, w0, w1⟩
end Go.Proofs.YthjddnmfpdcjnaaDoor.Pure
