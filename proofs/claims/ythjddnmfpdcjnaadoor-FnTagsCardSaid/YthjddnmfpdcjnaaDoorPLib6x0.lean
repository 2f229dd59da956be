/- Printed by a program of this session (a printer turned to take contracts that were proved by hand): functions with the answers of the Go functions, and proofs that the code comes to these answers; no condition beyond what each theorem names. -/
import Derived.Test.YthjddnmfpdcjnaaDoorProg
import Derived.Below
import Derived.Deep.Draws
import Derived.Deep.AppendLies
import Derived.Maps.AppendAt
import Derived.OwnWalk
import Derived.Laws.BytesArg
import Derived.Laws.MakeOwn
import Derived.Laws.OwnMore
import Derived.Deep.OwnRows
import Derived.Tactics
import Derived.Lib.ConvBytes
import Derived.Laws.Slices
import Derived.WalkKit
import Derived.KernelRfl
import Derived.RowKit3
import Derived.Deep.LoopGhost
import Derived.Deep.QuietTactic
import Derived.BigQuiet
import Derived.WideLaws
import Derived.Deep.DeepCutAuto
import Derived.Deep.CutBlock
import Derived.Deep.RegionHeld3
import Derived.Laws.Rows
import Derived.Lib.AppendStr
import Derived.ArgAppend
import Derived.Laws.IdiomCopy
import Derived.OrdersHeld
import Derived.Laws.BitsLemmas
import Derived.RowKit
import Derived.Test.YthjddnmfpdcjnaaDoorWWords
import Derived.Test.YthjddnmfpdcjnaaDoorWLast
import Derived.Test.YthjddnmfpdcjnaaDoorWTab
import Derived.Test.YthjddnmfpdcjnaaDoorWFour
import Derived.Test.YthjddnmfpdcjnaaDoorWQPut
import Derived.Test.YthjddnmfpdcjnaaDoorWApart
import Derived.Test.YthjddnmfpdcjnaaDoorWArr
import Derived.Test.YthjddnmfpdcjnaaDoorWZeros
import Derived.Test.YthjddnmfpdcjnaaDoorWFoot
import Derived.Test.YthjddnmfpdcjnaaDoorWKept
import Derived.Test.YthjddnmfpdcjnaaDoorWShare
import Derived.Test.YthjddnmfpdcjnaaDoorWN
import Derived.Test.YthjddnmfpdcjnaaDoorWFootNe
import Derived.Test.YthjddnmfpdcjnaaDoorWAt
import Derived.Test.YthjddnmfpdcjnaaDoorWEqStruct
import Derived.Test.YthjddnmfpdcjnaaDoorWRepsOne
import Derived.Test.YthjddnmfpdcjnaaDoorWInv
import Derived.Test.YthjddnmfpdcjnaaDoorWInvWords
import Derived.Test.YthjddnmfpdcjnaaDoorWGuard
import Derived.Test.YthjddnmfpdcjnaaDoorWNEv
import Derived.Test.YthjddnmfpdcjnaaDoorWMore
import Derived.Test.YthjddnmfpdcjnaaDoorLib0
import Derived.Test.YthjddnmfpdcjnaaDoorOwnTags
namespace Go.Proofs.YthjddnmfpdcjnaaDoor.PLib6
open Go.RowKit Go.Proofs.YthjddnmfpdcjnaaDoorW.PrintWords Go.Proofs.YthjddnmfpdcjnaaDoorW.PrintLast Go.Proofs.YthjddnmfpdcjnaaDoorW.PrintMore
attribute [local go_sem] max2_int min2_int max_two min_two max_three min_three max_four min_four   -- for this text's walks alone
set_option linter.unusedVariables false
set_option linter.unusedSimpArgs false



def errW : Option Int → Value
  | none => .nilIface
  | some c => .iface 0 (.int .i64 c)
theorem errW_none : errW none = .nilIface := rfl
theorem errW_some (c : Int) : errW (some c) = .iface 0 (.int .i64 c) := rfl

-- the values' own types

end Go.Proofs.YthjddnmfpdcjnaaDoor.PLib6
