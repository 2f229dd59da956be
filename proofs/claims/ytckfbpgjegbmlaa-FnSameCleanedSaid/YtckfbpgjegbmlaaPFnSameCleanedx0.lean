/- Printed by a program of this session (a printer turned to take contracts that were proved by hand): functions with the answers of the Go functions, and proofs that the code comes to these answers; no condition beyond what each theorem names. -/
import Derived.Test.YtckfbpgjegbmlaaProg
import Derived.Below
import Derived.Deep.Draws
import Derived.Deep.AppendLies
import Derived.Maps.AppendAt
import Derived.OwnWalk
import Derived.Laws.BytesArg
import Derived.Laws.MakeOwn
import Derived.Laws.OwnMore
import Derived.Deep.OwnRows
import Derived.Tactics
import Derived.Lib.ConvBytes
import Derived.Laws.Slices
import Derived.WalkKit
import Derived.KernelRfl
import Derived.RowKit3
import Derived.Deep.LoopGhost
import Derived.Deep.QuietTactic
import Derived.BigQuiet
import Derived.WideLaws
import Derived.Deep.DeepCutAuto
import Derived.Deep.CutBlock
import Derived.Deep.RegionHeld3
import Derived.Laws.Rows
import Derived.Lib.AppendStr
import Derived.ArgAppend
import Derived.Laws.IdiomCopy
import Derived.OrdersHeld
import Derived.Laws.BitsLemmas
import Derived.RowKit
import Derived.Test.YtckfbpgjegbmlaaWWords
import Derived.Test.YtckfbpgjegbmlaaWLast
import Derived.Test.YtckfbpgjegbmlaaWTab
import Derived.Test.YtckfbpgjegbmlaaWFour
import Derived.Test.YtckfbpgjegbmlaaWQPut
import Derived.Test.YtckfbpgjegbmlaaWApart
import Derived.Test.YtckfbpgjegbmlaaWArr
import Derived.Test.YtckfbpgjegbmlaaWZeros
import Derived.Test.YtckfbpgjegbmlaaWFoot
import Derived.Test.YtckfbpgjegbmlaaWKept
import Derived.Test.YtckfbpgjegbmlaaWShare
import Derived.Test.YtckfbpgjegbmlaaWN
import Derived.Test.YtckfbpgjegbmlaaWFootNe
import Derived.Test.YtckfbpgjegbmlaaWAt
import Derived.Test.YtckfbpgjegbmlaaWEqStruct
import Derived.Test.YtckfbpgjegbmlaaWRepsOne
import Derived.Test.YtckfbpgjegbmlaaWInv
import Derived.Test.YtckfbpgjegbmlaaWInvWords
import Derived.Test.YtckfbpgjegbmlaaWGuard
import Derived.Test.YtckfbpgjegbmlaaWNEv
import Derived.Test.YtckfbpgjegbmlaaWMore
import Derived.Test.YtckfbpgjegbmlaaOwnTrim
import Derived.Test.YtckfbpgjegbmlaaOwnPath
namespace Go.Proofs.Ytckfbpgjegbmlaa.PFnSameCleaned
open Go.RowKit Go.Proofs.YtckfbpgjegbmlaaW.PrintWords Go.Proofs.YtckfbpgjegbmlaaW.PrintLast Go.Proofs.YtckfbpgjegbmlaaW.PrintMore
attribute [local go_sem] max2_int min2_int max_two min_two max_three min_three max_four min_four   -- for this text's walks alone
set_option linter.unusedVariables false
set_option linter.unusedSimpArgs false



def errW : Option Int → Value
  | none => .nilIface
  | some c => .iface 0 (.int .i64 c)
theorem errW_none : errW none = .nilIface := rfl
theorem errW_some (c : Int) : errW (some c) = .iface 0 (.int .i64 c) := rfl

theorem info9 : (Try.prog.info? 9).map (fun i => (i.zero, i.size, i.bytes)) = some (some (.string ⟨#[]⟩), 1, 16) := by kernel_rfl
-- the values' own types

end Go.Proofs.Ytckfbpgjegbmlaa.PFnSameCleaned
