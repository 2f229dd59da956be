/- FnOrderedSet: what its row asks of the walk. -/
import Derived.Test.YtmmggofbpcmliaaLawFnOrderedSet
namespace Go.Proofs.Ytmmggofbpcmliaa.Pure
theorem FnOrderedSet (a0 : List OrdW.OStep) (a1 : ByteArray) (a2 : Int) (w0 : a0.length ≤ 9223372036854775807) (w1 : a1.size ≤ 140737488351232) (w2 : (Lit.int .i64 a2).wf = true) : true = true ∧ a0.length ≤ 9223372036854775807 ∧ a1.size ≤ 140737488351232 ∧ (-9223372036854775808 ≤ a2 ∧ a2 ≤ 9223372036854775807) := ⟨rfl, w0, w1, (by have := w2; simp [Lit.wf, IntKind.min, IntKind.max, IntKind.bits, IntKind.signed] at this; omega)⟩
end Go.Proofs.Ytmmggofbpcmliaa.Pure
