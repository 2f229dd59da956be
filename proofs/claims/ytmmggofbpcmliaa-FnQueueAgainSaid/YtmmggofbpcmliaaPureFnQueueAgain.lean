/- FnQueueAgain: what its row asks of the walk. -/
import Derived.Test.YtmmggofbpcmliaaLawFnQueueAgain
namespace Go.Proofs.Ytmmggofbpcmliaa.Pure
theorem FnQueueAgain (a0 : Int) (a1 : List ByteArray) (a2 : ByteArray) (w0 : (Lit.int .i64 a0).wf = true) (w1 : a1.length ≤ 8796093022208) (w2 : a2.size ≤ 140737488351232) : true = true ∧ (-9223372036854775808 ≤ a0 ∧ a0 ≤ 9223372036854775807) ∧ a1.length ≤ 8796093022208 ∧ a2.size ≤ 140737488351232 := ⟨rfl, (by have := w0; simp [Lit.wf, IntKind.min, IntKind.max, IntKind.bits, IntKind.signed] at this; omega), w1, w2⟩
end Go.Proofs.Ytmmggofbpcmliaa.Pure
