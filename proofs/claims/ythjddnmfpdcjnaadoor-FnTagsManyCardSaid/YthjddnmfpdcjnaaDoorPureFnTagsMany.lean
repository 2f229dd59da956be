/- FnTagsMany: what its row asks of the walk. -/
import Derived.Test.YthjddnmfpdcjnaaDoorLawFnTagsMany
namespace Go.Proofs.YthjddnmfpdcjnaaDoor.Pure
theorem FnTagsMany (a0 : List ByteArray) (a1 : ByteArray) (w0 : a0.length ≤ 8796093022208) (w1 : a1.size ≤ 140737488351232) : true = true ∧ a0.length ≤ 8796093022208 ∧ a1.size ≤ 140737488351232 := ⟨rfl, w0, w1⟩
end Go.Proofs.YthjddnmfpdcjnaaDoor.Pure
