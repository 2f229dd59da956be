/- FnQueue: what its row asks of the walk. -/
import Derived.Test.YtmmggofbpcmliaaLawFnQueue
namespace Go.Proofs.Ytmmggofbpcmliaa.Pure
theorem FnQueue (a0 : Int) (a1 : List (Int × ByteArray)) (w0 : (Lit.int .i64 a0).wf = true) (w1 : a1.length ≤ 9223372036854775807) : true = true ∧ (-9223372036854775808 ≤ a0 ∧ a0 ≤ 9223372036854775807) ∧ a1.length ≤ 9223372036854775807 := ⟨rfl, (by have := w0; simp [Lit.wf, IntKind.min, IntKind.max, IntKind.bits, IntKind.signed] at this; omega), w1⟩
end Go.Proofs.Ytmmggofbpcmliaa.Pure
