/- FnOrderedAnew: what its row asks of the walk. -/
import Derived.Test.YtmmggofbpcmliaaLawFnOrderedAnew
namespace Go.Proofs.Ytmmggofbpcmliaa.Pure
theorem FnOrderedAnew (a0 : List ByteArray) (a1 : Int) (w0 : a0.length ≤ 8796093022208) (w1 : (Lit.int .i64 a1).wf = true) : true = true ∧ a0.length ≤ 8796093022208 ∧ (-9223372036854775808 ≤ a1 ∧ a1 ≤ 9223372036854775807) := ⟨rfl, w0, (by have := w1; simp [Lit.wf, IntKind.min, IntKind.max, IntKind.bits, IntKind.signed] at this; omega)⟩
end Go.Proofs.Ytmmggofbpcmliaa.Pure
