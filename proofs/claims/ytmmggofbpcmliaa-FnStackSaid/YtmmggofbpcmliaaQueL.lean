/- The library's lock: the numbers under which this program holds its functions and types. -/
import Derived.Test.YtmmggofbpcmliaaRx
import Derived.Test.YtmmggofbpcmliaaProg
import Derived.Conc.RwLib
import Derived.Conc.MuLone
import Derived.KernelRfl
set_option linter.unusedVariables false
namespace Go.Proofs.Ytmmggofbpcmliaa.QueW
abbrev muLink : Go.Conc.Locks.MuLink := { lock := 63, unlock := 64, ilock := 67, iunlock := 68, lockSlow := 73, unlockSlow := 76, disable := 69, enable := 71, acquire := 72, relMerge := 74, cas32 := 70, add32 := 75, tMutex := 101, tIMutex := 99, tPMutex := 108, tPIMutex := 109, tPI32 := 111, tUP := 113, tNoCopy := 96, tU32 := 97 }
theorem muLib : Go.Conc.Locks.MuLib Try.prog muLink :=
  ⟨Try.func63, Try.func64, Try.func67, Try.func68, Try.func69, Try.func71, Try.func72, Try.func74, Try.func70, Try.func75, Try.underlying99, Try.runUnderlying99, Try.sizeOf99, Try.isAgg99, Try.zeroValue99, Try.underlying101, Try.runUnderlying101, Try.sizeOf101, Try.isAgg101, Try.zeroValue101, Try.underlying108, Try.runUnderlying108, Try.sizeOf108, Try.isAgg108, Try.zeroValue108, Try.underlying109, Try.runUnderlying109, Try.sizeOf109, Try.isAgg109, Try.zeroValue109, Try.underlying111, Try.runUnderlying111, Try.sizeOf111, Try.isAgg111, Try.zeroValue111, Try.underlying113, Try.runUnderlying113, Try.sizeOf113, Try.isAgg113, Try.zeroValue113, Try.underlying96, Try.runUnderlying96, Try.sizeOf96, Try.isAgg96, Try.zeroValue96, Try.underlying21, Try.runUnderlying21, Try.sizeOf21, Try.isAgg21, Try.zeroValue21, (by kernel_rfl)⟩
end Go.Proofs.Ytmmggofbpcmliaa.QueW
