/- FnStackBack: what its row asks of the walk. -/
import Derived.Test.YtmmggofbpcmliaaLawFnStackBack
namespace Go.Proofs.Ytmmggofbpcmliaa.Pure
theorem FnStackBack (a0 : List ByteArray) (w0 : a0.length ≤ 8796093022208) : true = true ∧ a0.length ≤ 8796093022208 := ⟨rfl, w0⟩
end Go.Proofs.Ytmmggofbpcmliaa.Pure
