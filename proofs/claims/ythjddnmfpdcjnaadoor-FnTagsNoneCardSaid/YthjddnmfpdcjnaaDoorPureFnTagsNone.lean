/- FnTagsNone: what its row asks of the walk. -/
import Derived.Test.YthjddnmfpdcjnaaDoorLawFnTagsNone
namespace Go.Proofs.YthjddnmfpdcjnaaDoor.Pure
theorem FnTagsNone (a0 : ByteArray) (w0 : a0.size ≤ 140737488351232) : true = true ∧ a0.size ≤ 140737488351232 := ⟨rfl, w0⟩
end Go.Proofs.YthjddnmfpdcjnaaDoor.Pure
