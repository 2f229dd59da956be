/- Pages: the same items, by ==. -/
import Derived.Test.YtkehggbmpdacpaaGreatDoorKp14
set_option maxRecDepth 100000
set_option linter.unusedVariables false
set_option linter.unusedSimpArgs false
set_option linter.unusedSectionVars false
namespace Go.Proofs.YtkehggbmpdacpaaGreatDoor.Pg
open Go.Rx hiding bt
open Go.RowKit Go.Proofs.YtkehggbmpdacpaaGreatDoor.Dec0 Go.Proofs.YtkehggbmpdacpaaGreatDoor.Lex0
end Go.Proofs.YtkehggbmpdacpaaGreatDoor.Pg
