/- FnOrdered: what its row asks of the walk. -/
import Derived.Test.YtmmggofbpcmliaaLawFnOrdered
namespace Go.Proofs.Ytmmggofbpcmliaa.Pure
theorem FnOrdered (a0 : List OrdW.OStep) (w0 : a0.length ≤ 9223372036854775807) : true = true ∧ a0.length ≤ 9223372036854775807 := ⟨rfl, w0⟩
end Go.Proofs.Ytmmggofbpcmliaa.Pure
