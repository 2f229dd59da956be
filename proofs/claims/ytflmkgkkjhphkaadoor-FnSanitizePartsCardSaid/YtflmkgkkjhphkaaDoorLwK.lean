/- For the rows of laws: what slices of texts and of bytes that come in hold. -/
import Derived.Test.YtflmkgkkjhphkaaDoorRow0
import Derived.Test.YtflmkgkkjhphkaaDoorLwFits
set_option linter.unusedVariables false
namespace Go.Proofs.YtflmkgkkjhphkaaDoor.Lw
open Go.Rx
open Go.RowKit Go.Proofs.YtflmkgkkjhphkaaDoorW.PrintWords
theorem rowAt_of {w : World} {A : Option Addr} {n c : Nat} {l : List ByteArray} (hn : l.length = n) (h : Kd.C Kd.string w A n l) : RowAt nof w (.slice A n c) n (strs l) := by
  refine ⟨A, c, rfl, fun j u hu => ?_⟩
  obtain ⟨h1, h2, h3⟩ := Kd.reads_of_C (d := ByteArray.empty) h
  have hj : j < l.length := by have := (List.getElem?_eq_some_iff.1 hu).1; simpa [strs] using this
  obtain ⟨ad, e, hc⟩ := h3 (by omega)
  refine ⟨ad, e, fun h => h, ?_⟩
  rw [hc j (by omega)]
  simp [strs, hj] at hu
  rw [← hu, List.getD_eq_getElem?_getD, List.getElem?_eq_getElem hj]
  rfl
theorem rowAt_u8 {w : World} {A : Option Addr} {n c : Nat} {l : List Int} (hn : l.length = n) (h : Kd.C (Kd.int .u8) w A n l) : RowAt nof w (.slice A n c) n (l.map (.int .u8)) := by
  refine ⟨A, c, rfl, fun j u hu => ?_⟩
  obtain ⟨h1, h2, h3⟩ := Kd.reads_of_C (d := (0 : Int)) h
  have hj : j < l.length := by have := (List.getElem?_eq_some_iff.1 hu).1; simpa using this
  obtain ⟨ad, e, hc⟩ := h3 (by omega)
  refine ⟨ad, e, fun h => h, ?_⟩
  rw [hc j (by omega)]
  simp [hj] at hu
  rw [← hu, List.getD_eq_getElem?_getD, List.getElem?_eq_getElem hj]
  rfl
end Go.Proofs.YtflmkgkkjhphkaaDoor.Lw
