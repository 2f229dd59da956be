/- What strings.LastIndex answers, by the library's contract. -/
import Derived.Test.YtgcadmofjblaeaaDoorShelfPaths
import Derived.Test.YtgcadmofjblaeaaDoorWMore
import Derived.Test.YtgcadmofjblaeaaDoorLib0
set_option linter.unusedVariables false
namespace Go.Proofs.YtgcadmofjblaeaaDoor
open Go.RowKit Go.Proofs.YtgcadmofjblaeaaDoorW.PrintWords Go.Proofs.YtgcadmofjblaeaaDoor.Lib0

def strings_LastIndex.f (a0 a1 : ByteArray) : Option Int := if a0.size < 4611686018427387904 then some (Lib.lastIndex a0.data.toList a1.data.toList) else none
theorem strings_LastIndex.calls (a0 a1 : ByteArray) (r : Int) (w : World) (h : strings_LastIndex.f a0 a1 = some r) :
    Calls Tryd.prog 32 #[.string a0, .string a1] w fun e w' => e = .returned (.int .i64 r) ∧ Drawn0 w w' := by
  unfold strings_LastIndex.f at h
  split at h
  · rename_i h1
    cases h
    refine (Tryd.strings_LastIndex a0 a1 h1 w).mono ?_
    rintro e w' ⟨rfl, rfl⟩
    exact ⟨rfl, Drawn0.refl _⟩
  · cases h
end Go.Proofs.YtgcadmofjblaeaaDoor
