/- For the rows of laws: what a slice of texts that comes in holds. -/
import Derived.Test.YtmmggofbpcmliaaRow0
import Derived.Test.YtmmggofbpcmliaaLib0
import Derived.Test.YtmmggofbpcmliaaLawT
set_option linter.unusedVariables false
namespace Go.Proofs.Ytmmggofbpcmliaa.OrdW
open Go.Rx hiding bt
open Go.RowKit Go.Proofs.YtmmggofbpcmliaaW.PrintWords Go.Proofs.Ytmmggofbpcmliaa.Lib0
theorem rowAt_of {w : World} {A : Option Addr} {n c : Nat} {l : List ByteArray} (hn : l.length = n) (h : Kd.C Kd.string w A n l) : RowAt nof w (.slice A n c) n (strs l) := by
  refine ⟨A, c, rfl, fun j u hu => ?_⟩
  obtain ⟨h1, h2, h3⟩ := Kd.reads_of_C (d := ByteArray.empty) h
  have hj : j < l.length := by have := (List.getElem?_eq_some_iff.1 hu).1; simpa [strs] using this
  obtain ⟨ad, e, hc⟩ := h3 (by omega)
  refine ⟨ad, e, fun h => h, ?_⟩
  rw [hc j (by omega), Lib0.getD_in _ _ _ hj]
  rw [strs_get hj] at hu
  exact hu
end Go.Proofs.Ytmmggofbpcmliaa.OrdW
