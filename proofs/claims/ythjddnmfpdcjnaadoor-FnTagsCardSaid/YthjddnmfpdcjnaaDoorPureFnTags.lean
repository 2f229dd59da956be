/- FnTags: what its row asks of the walk. -/
import Derived.Test.YthjddnmfpdcjnaaDoorLawFnTags
namespace Go.Proofs.YthjddnmfpdcjnaaDoor.Pure
theorem FnTags (a0 : ByteArray) (a1 : Int) (a2 : List PSp.S27) (w0 : a0.size ≤ 140737488351232) (w1 : (Lit.int .i64 a1).wf = true) : true = true ∧ a0.size ≤ 140737488351232 ∧ (-9223372036854775808 ≤ a1 ∧ a1 ≤ 9223372036854775807) := ⟨rfl, w0, (by have := w1; simp [Lit.wf, IntKind.min, IntKind.max, IntKind.bits, IntKind.signed] at this; omega)⟩
end Go.Proofs.YthjddnmfpdcjnaaDoor.Pure
