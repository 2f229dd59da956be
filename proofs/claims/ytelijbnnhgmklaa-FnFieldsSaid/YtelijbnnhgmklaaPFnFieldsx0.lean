/- Printed by a program of this session (a printer turned to take contracts that were proved by hand): functions with the answers of the Go functions, and proofs that the code comes to these answers; no condition beyond what each theorem names. -/
import Derived.Test.YtelijbnnhgmklaaProg
import Derived.Below
import Derived.Deep.Draws
import Derived.Deep.AppendLies
import Derived.Maps.AppendAt
import Derived.OwnWalk
import Derived.Laws.BytesArg
import Derived.Laws.MakeOwn
import Derived.Laws.OwnMore
import Derived.Deep.OwnRows
import Derived.Tactics
import Derived.Lib.ConvBytes
import Derived.Laws.Slices
import Derived.WalkKit
import Derived.KernelRfl
import Derived.RowKit3
import Derived.Deep.LoopGhost
import Derived.Deep.QuietTactic
import Derived.BigQuiet
import Derived.WideLaws
import Derived.Deep.DeepCutAuto
import Derived.Deep.CutBlock
import Derived.Deep.RegionHeld3
import Derived.Laws.Rows
import Derived.Lib.AppendStr
import Derived.ArgAppend
import Derived.Laws.IdiomCopy
import Derived.OrdersHeld
import Derived.Laws.BitsLemmas
import Derived.RowKit
import Derived.Test.YtelijbnnhgmklaaWWords
import Derived.Test.YtelijbnnhgmklaaWLast
import Derived.Test.YtelijbnnhgmklaaWTab
import Derived.Test.YtelijbnnhgmklaaWFour
import Derived.Test.YtelijbnnhgmklaaWQPut
import Derived.Test.YtelijbnnhgmklaaWApart
import Derived.Test.YtelijbnnhgmklaaWArr
import Derived.Test.YtelijbnnhgmklaaWZeros
import Derived.Test.YtelijbnnhgmklaaWFoot
import Derived.Test.YtelijbnnhgmklaaWKept
import Derived.Test.YtelijbnnhgmklaaWShare
import Derived.Test.YtelijbnnhgmklaaWN
import Derived.Test.YtelijbnnhgmklaaWFootNe
import Derived.Test.YtelijbnnhgmklaaWAt
import Derived.Test.YtelijbnnhgmklaaWEqStruct
import Derived.Test.YtelijbnnhgmklaaWRepsOne
import Derived.Test.YtelijbnnhgmklaaWInv
import Derived.Test.YtelijbnnhgmklaaWInvWords
import Derived.Test.YtelijbnnhgmklaaWGuard
import Derived.Test.YtelijbnnhgmklaaWNEv
import Derived.Test.YtelijbnnhgmklaaWMore
import Derived.Test.YtelijbnnhgmklaaOwnFields
namespace Go.Proofs.Ytelijbnnhgmklaa.PFnFields
open Go.RowKit Go.Proofs.YtelijbnnhgmklaaW.PrintWords Go.Proofs.YtelijbnnhgmklaaW.PrintLast Go.Proofs.YtelijbnnhgmklaaW.PrintMore
attribute [local go_sem] max2_int min2_int max_two min_two max_three min_three max_four min_four   -- for this text's walks alone
set_option linter.unusedVariables false
set_option linter.unusedSimpArgs false



def errW : Option Int → Value
  | none => .nilIface
  | some c => .iface 0 (.int .i64 c)
theorem errW_none : errW none = .nilIface := rfl
theorem errW_some (c : Int) : errW (some c) = .iface 0 (.int .i64 c) := rfl

theorem info9 : (Try.prog.info? 9).map (fun i => (i.zero, i.size, i.bytes)) = some (some (.string ⟨#[]⟩), 1, 16) := by kernel_rfl
-- the values' own types

end Go.Proofs.Ytelijbnnhgmklaa.PFnFields
