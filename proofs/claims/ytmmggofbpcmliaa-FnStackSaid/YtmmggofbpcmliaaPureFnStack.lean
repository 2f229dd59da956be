/- FnStack: what its row asks of the walk. -/
import Derived.Test.YtmmggofbpcmliaaLawFnStack
namespace Go.Proofs.Ytmmggofbpcmliaa.Pure
theorem FnStack (a0 : List (Int × ByteArray)) (w0 : a0.length ≤ 9223372036854775807) : true = true ∧ a0.length ≤ 9223372036854775807 := ⟨rfl, w0⟩
end Go.Proofs.Ytmmggofbpcmliaa.Pure
