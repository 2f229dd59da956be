/- Pages: two pages' items are the same. -/
import Derived.Test.YtkehggbmpdacpaaGreatDoorPg64
import Derived.Test.YtkehggbmpdacpaaGreatDoorPg65
import Derived.Test.YtkehggbmpdacpaaGreatDoorKp14
set_option maxRecDepth 100000
set_option linter.unusedVariables false
set_option linter.unusedSimpArgs false
set_option linter.unusedSectionVars false
namespace Go.Proofs.YtkehggbmpdacpaaGreatDoor.Pg
open Go.Rx hiding bt
open Go.RowKit Go.Proofs.YtkehggbmpdacpaaGreatDoor.Dec0 Go.Proofs.YtkehggbmpdacpaaGreatDoor.Lex0
theorem told_len (s : T) (fr dv : Bool) : (told s fr dv).length ≤ 24 * s.length + 24 := by
  have h2 := (parse_in s fr dv).2
  have h3 : (told s fr dv).length = (parse envT s fr dv).length := by unfold told; rw [List.length_map]
  rw [h3]
  omega
end Go.Proofs.YtkehggbmpdacpaaGreatDoor.Pg
