/- FnRawTextSkipped: what its row asks of the walk. -/
import Derived.Test.YthjddnmfpdcjnaaDoorLawFnRawTextSkipped
namespace Go.Proofs.YthjddnmfpdcjnaaDoor.Pure
theorem FnRawTextSkipped (a0 : ByteArray) (a1 : ByteArray) (a2 : ByteArray) (w0 : a0.size ≤ 140737488351232) (w1 : a1.size ≤ 140737488351232) (w2 : a2.size ≤ 140737488351232) : true = true ∧ a0.size ≤ 140737488351232 ∧ a1.size ≤ 140737488351232 ∧ a2.size ≤ 140737488351232 := ⟨rfl, w0, w1, w2⟩
end Go.Proofs.YthjddnmfpdcjnaaDoor.Pure
