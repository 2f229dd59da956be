/- Printed by a program of this session (a printer turned to take contracts that were proved by hand): functions with the answers of the Go functions, and proofs that the code comes to these answers; no condition beyond what each theorem names. -/
import Derived.Test.YtgcadmofjblaeaaDoorPLib5x0
import Derived.Test.YtgcadmofjblaeaaDoorPLib5x1
namespace Go.Proofs.YtgcadmofjblaeaaDoor.PLib5
open Go.RowKit Go.Proofs.YtgcadmofjblaeaaDoorW.PrintWords Go.Proofs.YtgcadmofjblaeaaDoorW.PrintLast Go.Proofs.YtgcadmofjblaeaaDoorW.PrintMore
attribute [local go_sem] max2_int min2_int max_two min_two max_three min_three max_four min_four   -- for this text's walks alone
set_option linter.unusedVariables false
set_option linter.unusedSimpArgs false

end Go.Proofs.YtgcadmofjblaeaaDoor.PLib5
