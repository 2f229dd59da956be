/- FnTagsBuilt: what its row asks of the walk. -/
import Derived.Test.YthjddnmfpdcjnaaDoorLawFnTagsBuilt
namespace Go.Proofs.YthjddnmfpdcjnaaDoor.Pure
theorem FnTagsBuilt (a0 : ByteArray) (a1 : ByteArray) (a2 : List ByteArray) (a3 : Bool) (a4 : Bool) (a5 : ByteArray) (w0 : a0.size ≤ 140737488351232) (w1 : a1.size ≤ 140737488351232) (w2 : a2.length ≤ 8796093022208) (w5 : a5.size ≤ 140737488351232) : true = true ∧ a0.size ≤ 140737488351232 ∧ a1.size ≤ 140737488351232 ∧ a2.length ≤ 8796093022208 ∧ a5.size ≤ 140737488351232 := ⟨rfl, w0, w1, w2, w5⟩
end Go.Proofs.YthjddnmfpdcjnaaDoor.Pure
