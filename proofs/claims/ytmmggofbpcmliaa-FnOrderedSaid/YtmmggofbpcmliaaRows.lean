/-
  No cell of these rows narrows 'for every input' (looked for: loops, veiled, ifaces, maps, wideKeys, modest, calm, conditions, laid).
  DERIVED. THE GIVEN ROWS OF THIS SEAT. 14 by the template 'for every input the law returns true; each argument reads behind the call as it read before'; 0 by the template 'total and deterministic' (their statements: YtmmggofbpcmliaaTotals.lean).
  GIVEN WITH THE SEED: the statements are not yours to turn. If you find one false, say at which input.
  Laid BY PROGRAM, IN A SANDBOX (cutbox-rows.mjs): the forced cells as the released guide's own fill.sh prints them over the translation 1046f55ae3ebf390… (all of the seat's roots in one cut). By AI agents, Wed Nov 11 2026. No macro, syntax, notation, axiom, sorry.
-/
import Derived.Test.YtmmggofbpcmliaaChecked
import GoSem.Claim
import GoSem.ClaimJoined
import GoSem.ClaimMapViews
import Derived.JoinedTies
import Derived.KernelRfl
namespace Go.Proofs.Ytmmggofbpcmliaa
/- THE CELL 'sum', in the pinned program and in every row, IS THE sha256 OF THE DUMP (.gsa) THAT YtmmggofbpcmliaaProg.lean LOADS. Nothing in Lean hashes anything: it is a label: what it is worth is what the hold of that sum in a sandbox is worth. -/
noncomputable def Try.pinned : Pinned := { name := "ytmmggofbpcmliaa", sum := "1046f55ae3ebf390101617cffdfb490e9e0574fcfe72dc2cd1f4bf4f2eff3b59", checked := Try.checked }
namespace Rows
def none {H : Type} : Left H := { results := [], args := [] }

/-- 'laws.FnStack': WHATEVER THE INPUT: true; the input reads as it did. -/
def fnStackSpec : ChangeSpec := { name := "fnStack", fn := fun _ => fun
  | [d] => { results := [.lit (.bool true)], args := [d] }
  | _ => none }
def fnStackRow : OpenClaim := { program := "ytmmggofbpcmliaa", sum := "1046f55ae3ebf390101617cffdfb490e9e0574fcfe72dc2cd1f4bf4f2eff3b59", func := "pub-quirehand/laws.FnStack", spec := "fnStack", unfollowed := true, recurses := true, apart := false }
def FnStackSaid : Prop := fnStackRow.holds Try.pinned (OpenSpec.ofChange fnStackSpec)

/-- ITS FALSE NEIGHBOUR: 'it returns false'. Refute it at one input. -/
def fnStackWrong : ChangeSpec := { name := "fnStack", fn := fun _ => fun
  | [d] => { results := [.lit (.bool false)], args := [d] }
  | _ => none }
def FnStackWrongFalsely : Prop := fnStackRow.holds Try.pinned (OpenSpec.ofChange fnStackWrong)

/-- 'laws.FnStackBack': WHATEVER THE INPUT: true; the input reads as it did. -/
def fnStackBackSpec : ChangeSpec := { name := "fnStackBack", fn := fun _ => fun
  | [d] => { results := [.lit (.bool true)], args := [d] }
  | _ => none }
def fnStackBackRow : OpenClaim := { program := "ytmmggofbpcmliaa", sum := "1046f55ae3ebf390101617cffdfb490e9e0574fcfe72dc2cd1f4bf4f2eff3b59", func := "pub-quirehand/laws.FnStackBack", spec := "fnStackBack", unfollowed := true, recurses := true, apart := false }
def FnStackBackSaid : Prop := fnStackBackRow.holds Try.pinned (OpenSpec.ofChange fnStackBackSpec)

/-- ITS FALSE NEIGHBOUR: 'it returns false'. Refute it at one input. -/
def fnStackBackWrong : ChangeSpec := { name := "fnStackBack", fn := fun _ => fun
  | [d] => { results := [.lit (.bool false)], args := [d] }
  | _ => none }
def FnStackBackWrongFalsely : Prop := fnStackBackRow.holds Try.pinned (OpenSpec.ofChange fnStackBackWrong)

/-- 'laws.FnStackTop': WHATEVER THE INPUT: true; the input reads as it did. -/
def fnStackTopSpec : ChangeSpec := { name := "fnStackTop", fn := fun _ => fun
  | [d] => { results := [.lit (.bool true)], args := [d] }
  | _ => none }
def fnStackTopRow : OpenClaim := { program := "ytmmggofbpcmliaa", sum := "1046f55ae3ebf390101617cffdfb490e9e0574fcfe72dc2cd1f4bf4f2eff3b59", func := "pub-quirehand/laws.FnStackTop", spec := "fnStackTop", unfollowed := true, recurses := true, apart := false }
def FnStackTopSaid : Prop := fnStackTopRow.holds Try.pinned (OpenSpec.ofChange fnStackTopSpec)

/-- ITS FALSE NEIGHBOUR: 'it returns false'. Refute it at one input. -/
def fnStackTopWrong : ChangeSpec := { name := "fnStackTop", fn := fun _ => fun
  | [d] => { results := [.lit (.bool false)], args := [d] }
  | _ => none }
def FnStackTopWrongFalsely : Prop := fnStackTopRow.holds Try.pinned (OpenSpec.ofChange fnStackTopWrong)

/-- 'laws.FnQueue': WHATEVER THE INPUT: true; the input reads as it did. -/
def fnQueueSpec : ChangeSpec := { name := "fnQueue", fn := fun _ => fun
  | [d1, d2] => { results := [.lit (.bool true)], args := [d1, d2] }
  | _ => none }
def fnQueueRow : OpenClaim := { program := "ytmmggofbpcmliaa", sum := "1046f55ae3ebf390101617cffdfb490e9e0574fcfe72dc2cd1f4bf4f2eff3b59", func := "pub-quirehand/laws.FnQueue", spec := "fnQueue", inPlace := ["(*internal/sync.Mutex).Lock", "internal/race.Disable", "sync/atomic.CompareAndSwapInt32", "internal/race.Enable", "internal/race.Acquire", "(*internal/sync.Mutex).lockSlow", "internal/sync.runtime_canSpin", "internal/sync.runtime_doSpin", "internal/sync.throw", "internal/sync.runtime_nanotime", "internal/sync.runtime_SemacquireMutex", "sync/atomic.AddInt32", "(*internal/sync.Mutex).Unlock", "internal/race.ReleaseMerge", "(*internal/sync.Mutex).unlockSlow", "internal/sync.fatal", "internal/sync.runtime_Semrelease"], apart := false }
def FnQueueSaid : Prop := fnQueueRow.holds Try.pinned (OpenSpec.ofChange fnQueueSpec)

/-- ITS FALSE NEIGHBOUR: 'it returns false'. Refute it at one input. -/
def fnQueueWrong : ChangeSpec := { name := "fnQueue", fn := fun _ => fun
  | [d1, d2] => { results := [.lit (.bool false)], args := [d1, d2] }
  | _ => none }
def FnQueueWrongFalsely : Prop := fnQueueRow.holds Try.pinned (OpenSpec.ofChange fnQueueWrong)

/-- 'laws.FnQueueAgain': WHATEVER THE INPUT: true; the input reads as it did. -/
def fnQueueAgainSpec : ChangeSpec := { name := "fnQueueAgain", fn := fun _ => fun
  | [d1, d2, d3] => { results := [.lit (.bool true)], args := [d1, d2, d3] }
  | _ => none }
def fnQueueAgainRow : OpenClaim := { program := "ytmmggofbpcmliaa", sum := "1046f55ae3ebf390101617cffdfb490e9e0574fcfe72dc2cd1f4bf4f2eff3b59", func := "pub-quirehand/laws.FnQueueAgain", spec := "fnQueueAgain", inPlace := ["(*internal/sync.Mutex).Lock", "internal/race.Disable", "sync/atomic.CompareAndSwapInt32", "internal/race.Enable", "internal/race.Acquire", "(*internal/sync.Mutex).lockSlow", "internal/sync.runtime_canSpin", "internal/sync.runtime_doSpin", "internal/sync.throw", "internal/sync.runtime_nanotime", "internal/sync.runtime_SemacquireMutex", "sync/atomic.AddInt32", "(*internal/sync.Mutex).Unlock", "internal/race.ReleaseMerge", "(*internal/sync.Mutex).unlockSlow", "internal/sync.fatal", "internal/sync.runtime_Semrelease"], apart := false }
def FnQueueAgainSaid : Prop := fnQueueAgainRow.holds Try.pinned (OpenSpec.ofChange fnQueueAgainSpec)

/-- ITS FALSE NEIGHBOUR: 'it returns false'. Refute it at one input. -/
def fnQueueAgainWrong : ChangeSpec := { name := "fnQueueAgain", fn := fun _ => fun
  | [d1, d2, d3] => { results := [.lit (.bool false)], args := [d1, d2, d3] }
  | _ => none }
def FnQueueAgainWrongFalsely : Prop := fnQueueAgainRow.holds Try.pinned (OpenSpec.ofChange fnQueueAgainWrong)

/-- 'laws.FnQueueHolds': WHATEVER THE INPUT: true; the input reads as it did. -/
def fnQueueHoldsSpec : ChangeSpec := { name := "fnQueueHolds", fn := fun _ => fun
  | [d1, d2] => { results := [.lit (.bool true)], args := [d1, d2] }
  | _ => none }
def fnQueueHoldsRow : OpenClaim := { program := "ytmmggofbpcmliaa", sum := "1046f55ae3ebf390101617cffdfb490e9e0574fcfe72dc2cd1f4bf4f2eff3b59", func := "pub-quirehand/laws.FnQueueHolds", spec := "fnQueueHolds", inPlace := ["(*internal/sync.Mutex).Lock", "internal/race.Disable", "sync/atomic.CompareAndSwapInt32", "internal/race.Enable", "internal/race.Acquire", "(*internal/sync.Mutex).lockSlow", "internal/sync.runtime_canSpin", "internal/sync.runtime_doSpin", "internal/sync.throw", "internal/sync.runtime_nanotime", "internal/sync.runtime_SemacquireMutex", "sync/atomic.AddInt32", "(*internal/sync.Mutex).Unlock", "internal/race.ReleaseMerge", "(*internal/sync.Mutex).unlockSlow", "internal/sync.fatal", "internal/sync.runtime_Semrelease"], apart := false }
def FnQueueHoldsSaid : Prop := fnQueueHoldsRow.holds Try.pinned (OpenSpec.ofChange fnQueueHoldsSpec)

/-- ITS FALSE NEIGHBOUR: 'it returns false'. Refute it at one input. -/
def fnQueueHoldsWrong : ChangeSpec := { name := "fnQueueHolds", fn := fun _ => fun
  | [d1, d2] => { results := [.lit (.bool false)], args := [d1, d2] }
  | _ => none }
def FnQueueHoldsWrongFalsely : Prop := fnQueueHoldsRow.holds Try.pinned (OpenSpec.ofChange fnQueueHoldsWrong)

/-- 'laws.FnQueueOrder': WHATEVER THE INPUT: true; the input reads as it did. -/
def fnQueueOrderSpec : ChangeSpec := { name := "fnQueueOrder", fn := fun _ => fun
  | [d1, d2] => { results := [.lit (.bool true)], args := [d1, d2] }
  | _ => none }
def fnQueueOrderRow : OpenClaim := { program := "ytmmggofbpcmliaa", sum := "1046f55ae3ebf390101617cffdfb490e9e0574fcfe72dc2cd1f4bf4f2eff3b59", func := "pub-quirehand/laws.FnQueueOrder", spec := "fnQueueOrder", inPlace := ["(*internal/sync.Mutex).Lock", "internal/race.Disable", "sync/atomic.CompareAndSwapInt32", "internal/race.Enable", "internal/race.Acquire", "(*internal/sync.Mutex).lockSlow", "internal/sync.runtime_canSpin", "internal/sync.runtime_doSpin", "internal/sync.throw", "internal/sync.runtime_nanotime", "internal/sync.runtime_SemacquireMutex", "sync/atomic.AddInt32", "(*internal/sync.Mutex).Unlock", "internal/race.ReleaseMerge", "(*internal/sync.Mutex).unlockSlow", "internal/sync.fatal", "internal/sync.runtime_Semrelease"], apart := false }
def FnQueueOrderSaid : Prop := fnQueueOrderRow.holds Try.pinned (OpenSpec.ofChange fnQueueOrderSpec)

/-- ITS FALSE NEIGHBOUR: 'it returns false'. Refute it at one input. -/
def fnQueueOrderWrong : ChangeSpec := { name := "fnQueueOrder", fn := fun _ => fun
  | [d1, d2] => { results := [.lit (.bool false)], args := [d1, d2] }
  | _ => none }
def FnQueueOrderWrongFalsely : Prop := fnQueueOrderRow.holds Try.pinned (OpenSpec.ofChange fnQueueOrderWrong)

/-- 'laws.FnOrdered': WHATEVER THE INPUT: true; the input reads as it did. -/
def fnOrderedSpec : ChangeSpec := { name := "fnOrdered", fn := fun _ => fun
  | [d] => { results := [.lit (.bool true)], args := [d] }
  | _ => none }
def fnOrderedRow : OpenClaim := { program := "ytmmggofbpcmliaa", sum := "1046f55ae3ebf390101617cffdfb490e9e0574fcfe72dc2cd1f4bf4f2eff3b59", func := "pub-quirehand/laws.FnOrdered", spec := "fnOrdered", unfollowed := true, recurses := true, apart := false }
def FnOrderedSaid : Prop := fnOrderedRow.holds Try.pinned (OpenSpec.ofChange fnOrderedSpec)

/-- ITS FALSE NEIGHBOUR: 'it returns false'. Refute it at one input. -/
def fnOrderedWrong : ChangeSpec := { name := "fnOrdered", fn := fun _ => fun
  | [d] => { results := [.lit (.bool false)], args := [d] }
  | _ => none }
def FnOrderedWrongFalsely : Prop := fnOrderedRow.holds Try.pinned (OpenSpec.ofChange fnOrderedWrong)

/-- 'laws.FnOrderedAnew': WHATEVER THE INPUT: true; the input reads as it did. -/
def fnOrderedAnewSpec : ChangeSpec := { name := "fnOrderedAnew", fn := fun _ => fun
  | [d1, d2] => { results := [.lit (.bool true)], args := [d1, d2] }
  | _ => none }
def fnOrderedAnewRow : OpenClaim := { program := "ytmmggofbpcmliaa", sum := "1046f55ae3ebf390101617cffdfb490e9e0574fcfe72dc2cd1f4bf4f2eff3b59", func := "pub-quirehand/laws.FnOrderedAnew", spec := "fnOrderedAnew", unfollowed := true, recurses := true, apart := false }
def FnOrderedAnewSaid : Prop := fnOrderedAnewRow.holds Try.pinned (OpenSpec.ofChange fnOrderedAnewSpec)

/-- ITS FALSE NEIGHBOUR: 'it returns false'. Refute it at one input. -/
def fnOrderedAnewWrong : ChangeSpec := { name := "fnOrderedAnew", fn := fun _ => fun
  | [d1, d2] => { results := [.lit (.bool false)], args := [d1, d2] }
  | _ => none }
def FnOrderedAnewWrongFalsely : Prop := fnOrderedAnewRow.holds Try.pinned (OpenSpec.ofChange fnOrderedAnewWrong)

/-- 'laws.FnOrderedClone': WHATEVER THE INPUT: true; the input reads as it did. -/
def fnOrderedCloneSpec : ChangeSpec := { name := "fnOrderedClone", fn := fun _ => fun
  | [d1, d2, d3] => { results := [.lit (.bool true)], args := [d1, d2, d3] }
  | _ => none }
def fnOrderedCloneRow : OpenClaim := { program := "ytmmggofbpcmliaa", sum := "1046f55ae3ebf390101617cffdfb490e9e0574fcfe72dc2cd1f4bf4f2eff3b59", func := "pub-quirehand/laws.FnOrderedClone", spec := "fnOrderedClone", unfollowed := true, recurses := true, apart := false }
def FnOrderedCloneSaid : Prop := fnOrderedCloneRow.holds Try.pinned (OpenSpec.ofChange fnOrderedCloneSpec)

/-- ITS FALSE NEIGHBOUR: 'it returns false'. Refute it at one input. -/
def fnOrderedCloneWrong : ChangeSpec := { name := "fnOrderedClone", fn := fun _ => fun
  | [d1, d2, d3] => { results := [.lit (.bool false)], args := [d1, d2, d3] }
  | _ => none }
def FnOrderedCloneWrongFalsely : Prop := fnOrderedCloneRow.holds Try.pinned (OpenSpec.ofChange fnOrderedCloneWrong)

/-- 'laws.FnOrderedFirst': WHATEVER THE INPUT: true; the input reads as it did. -/
def fnOrderedFirstSpec : ChangeSpec := { name := "fnOrderedFirst", fn := fun _ => fun
  | [d] => { results := [.lit (.bool true)], args := [d] }
  | _ => none }
def fnOrderedFirstRow : OpenClaim := { program := "ytmmggofbpcmliaa", sum := "1046f55ae3ebf390101617cffdfb490e9e0574fcfe72dc2cd1f4bf4f2eff3b59", func := "pub-quirehand/laws.FnOrderedFirst", spec := "fnOrderedFirst", unfollowed := true, recurses := true, apart := false }
def FnOrderedFirstSaid : Prop := fnOrderedFirstRow.holds Try.pinned (OpenSpec.ofChange fnOrderedFirstSpec)

/-- ITS FALSE NEIGHBOUR: 'it returns false'. Refute it at one input. -/
def fnOrderedFirstWrong : ChangeSpec := { name := "fnOrderedFirst", fn := fun _ => fun
  | [d] => { results := [.lit (.bool false)], args := [d] }
  | _ => none }
def FnOrderedFirstWrongFalsely : Prop := fnOrderedFirstRow.holds Try.pinned (OpenSpec.ofChange fnOrderedFirstWrong)

/-- 'laws.FnOrderedKeys': WHATEVER THE INPUT: true; the input reads as it did. -/
def fnOrderedKeysSpec : ChangeSpec := { name := "fnOrderedKeys", fn := fun _ => fun
  | [d] => { results := [.lit (.bool true)], args := [d] }
  | _ => none }
def fnOrderedKeysRow : OpenClaim := { program := "ytmmggofbpcmliaa", sum := "1046f55ae3ebf390101617cffdfb490e9e0574fcfe72dc2cd1f4bf4f2eff3b59", func := "pub-quirehand/laws.FnOrderedKeys", spec := "fnOrderedKeys", unfollowed := true, recurses := true, apart := false }
def FnOrderedKeysSaid : Prop := fnOrderedKeysRow.holds Try.pinned (OpenSpec.ofChange fnOrderedKeysSpec)

/-- ITS FALSE NEIGHBOUR: 'it returns false'. Refute it at one input. -/
def fnOrderedKeysWrong : ChangeSpec := { name := "fnOrderedKeys", fn := fun _ => fun
  | [d] => { results := [.lit (.bool false)], args := [d] }
  | _ => none }
def FnOrderedKeysWrongFalsely : Prop := fnOrderedKeysRow.holds Try.pinned (OpenSpec.ofChange fnOrderedKeysWrong)

/-- 'laws.FnOrderedRange': WHATEVER THE INPUT: true; the input reads as it did. -/
def fnOrderedRangeSpec : ChangeSpec := { name := "fnOrderedRange", fn := fun _ => fun
  | [d1, d2] => { results := [.lit (.bool true)], args := [d1, d2] }
  | _ => none }
def fnOrderedRangeRow : OpenClaim := { program := "ytmmggofbpcmliaa", sum := "1046f55ae3ebf390101617cffdfb490e9e0574fcfe72dc2cd1f4bf4f2eff3b59", func := "pub-quirehand/laws.FnOrderedRange", spec := "fnOrderedRange", unfollowed := true, recurses := true, apart := false }
def FnOrderedRangeSaid : Prop := fnOrderedRangeRow.holds Try.pinned (OpenSpec.ofChange fnOrderedRangeSpec)

/-- ITS FALSE NEIGHBOUR: 'it returns false'. Refute it at one input. -/
def fnOrderedRangeWrong : ChangeSpec := { name := "fnOrderedRange", fn := fun _ => fun
  | [d1, d2] => { results := [.lit (.bool false)], args := [d1, d2] }
  | _ => none }
def FnOrderedRangeWrongFalsely : Prop := fnOrderedRangeRow.holds Try.pinned (OpenSpec.ofChange fnOrderedRangeWrong)

/-- 'laws.FnOrderedSet': WHATEVER THE INPUT: true; the input reads as it did. -/
def fnOrderedSetSpec : ChangeSpec := { name := "fnOrderedSet", fn := fun _ => fun
  | [d1, d2, d3] => { results := [.lit (.bool true)], args := [d1, d2, d3] }
  | _ => none }
def fnOrderedSetRow : OpenClaim := { program := "ytmmggofbpcmliaa", sum := "1046f55ae3ebf390101617cffdfb490e9e0574fcfe72dc2cd1f4bf4f2eff3b59", func := "pub-quirehand/laws.FnOrderedSet", spec := "fnOrderedSet", unfollowed := true, recurses := true, apart := false }
def FnOrderedSetSaid : Prop := fnOrderedSetRow.holds Try.pinned (OpenSpec.ofChange fnOrderedSetSpec)

/-- ITS FALSE NEIGHBOUR: 'it returns false'. Refute it at one input. -/
def fnOrderedSetWrong : ChangeSpec := { name := "fnOrderedSet", fn := fun _ => fun
  | [d1, d2, d3] => { results := [.lit (.bool false)], args := [d1, d2, d3] }
  | _ => none }
def FnOrderedSetWrongFalsely : Prop := fnOrderedSetRow.holds Try.pinned (OpenSpec.ofChange fnOrderedSetWrong)

/- THE SECOND FORM. 'bulk': how many values and letters a reading holds, each counted each time it is reached (what is shared counts as often as it is met; a slice's spare places count too). A statement '..UptoSaid' is the law's where the arguments, and the package variables that the reading takes, are together of bulk at most 1048576: NARROWER than '..Said'. Prove '..Said' where nothing that the law and all that it calls make is longer than what came in: it says more and counts as full. Else prove '..UptoSaid'. A law counts once. -/
mutual
def uptoBulk {H : Type} : DataW H → Nat
  | .lit (.string bytes) => bytes.length + 1
  | .lit _ => 1
  | .nil => 1
  | .ptr d => uptoBulk d + 1
  | .slice elems spare => uptoBulkAll elems + uptoBulkAll spare + 1
  | .agg parts => uptoBulkAll parts + 1
  | .iface _ d => uptoBulk d + 1
  | .map entries => uptoBulkEntries entries + 1
  | .held _ => 1
def uptoBulkAll {H : Type} : List (DataW H) → Nat
  | [] => 0
  | d :: r => uptoBulk d + uptoBulkAll r
def uptoBulkEntries {H : Type} : List (Lit × DataW H) → Nat
  | [] => 0
  | x :: r => uptoBulkEntry x + uptoBulkEntries r
def uptoBulkEntry {H : Type} : Lit × DataW H → Nat
  | (.string bytes, d) => bytes.length + uptoBulk d + 1
  | (_, d) => uptoBulk d + 1
 end
def uptoSmall : (H : Type) → List (DataW H) → Bool := fun _ ds => decide (uptoBulkAll ds ≤ 1048576)
def OpenSpec.upto (s : _root_.Go.ChangeSpec) : _root_.Go.OpenSpec := { _root_.Go.OpenSpec.ofChange s with cond := some uptoSmall }

/-- 'laws.FnStack', WHERE WHAT IT READS IS OF BULK AT MOST 1048576: true; the input reads as it did. -/
def fnStackUptoRow : OpenClaim := { program := "ytmmggofbpcmliaa", sum := "1046f55ae3ebf390101617cffdfb490e9e0574fcfe72dc2cd1f4bf4f2eff3b59", func := "pub-quirehand/laws.FnStack", spec := "fnStack", unfollowed := true, recurses := true, apart := false, narrowed := true }
def FnStackUptoSaid : Prop := fnStackUptoRow.holds Try.pinned (OpenSpec.upto fnStackSpec)

/-- 'laws.FnStackBack', WHERE WHAT IT READS IS OF BULK AT MOST 1048576: true; the input reads as it did. -/
def fnStackBackUptoRow : OpenClaim := { program := "ytmmggofbpcmliaa", sum := "1046f55ae3ebf390101617cffdfb490e9e0574fcfe72dc2cd1f4bf4f2eff3b59", func := "pub-quirehand/laws.FnStackBack", spec := "fnStackBack", unfollowed := true, recurses := true, apart := false, narrowed := true }
def FnStackBackUptoSaid : Prop := fnStackBackUptoRow.holds Try.pinned (OpenSpec.upto fnStackBackSpec)

/-- 'laws.FnStackTop', WHERE WHAT IT READS IS OF BULK AT MOST 1048576: true; the input reads as it did. -/
def fnStackTopUptoRow : OpenClaim := { program := "ytmmggofbpcmliaa", sum := "1046f55ae3ebf390101617cffdfb490e9e0574fcfe72dc2cd1f4bf4f2eff3b59", func := "pub-quirehand/laws.FnStackTop", spec := "fnStackTop", unfollowed := true, recurses := true, apart := false, narrowed := true }
def FnStackTopUptoSaid : Prop := fnStackTopUptoRow.holds Try.pinned (OpenSpec.upto fnStackTopSpec)

/-- 'laws.FnQueue', WHERE WHAT IT READS IS OF BULK AT MOST 1048576: true; the input reads as it did. -/
def fnQueueUptoRow : OpenClaim := { program := "ytmmggofbpcmliaa", sum := "1046f55ae3ebf390101617cffdfb490e9e0574fcfe72dc2cd1f4bf4f2eff3b59", func := "pub-quirehand/laws.FnQueue", spec := "fnQueue", inPlace := ["(*internal/sync.Mutex).Lock", "internal/race.Disable", "sync/atomic.CompareAndSwapInt32", "internal/race.Enable", "internal/race.Acquire", "(*internal/sync.Mutex).lockSlow", "internal/sync.runtime_canSpin", "internal/sync.runtime_doSpin", "internal/sync.throw", "internal/sync.runtime_nanotime", "internal/sync.runtime_SemacquireMutex", "sync/atomic.AddInt32", "(*internal/sync.Mutex).Unlock", "internal/race.ReleaseMerge", "(*internal/sync.Mutex).unlockSlow", "internal/sync.fatal", "internal/sync.runtime_Semrelease"], apart := false, narrowed := true }
def FnQueueUptoSaid : Prop := fnQueueUptoRow.holds Try.pinned (OpenSpec.upto fnQueueSpec)

/-- 'laws.FnQueueAgain', WHERE WHAT IT READS IS OF BULK AT MOST 1048576: true; the input reads as it did. -/
def fnQueueAgainUptoRow : OpenClaim := { program := "ytmmggofbpcmliaa", sum := "1046f55ae3ebf390101617cffdfb490e9e0574fcfe72dc2cd1f4bf4f2eff3b59", func := "pub-quirehand/laws.FnQueueAgain", spec := "fnQueueAgain", inPlace := ["(*internal/sync.Mutex).Lock", "internal/race.Disable", "sync/atomic.CompareAndSwapInt32", "internal/race.Enable", "internal/race.Acquire", "(*internal/sync.Mutex).lockSlow", "internal/sync.runtime_canSpin", "internal/sync.runtime_doSpin", "internal/sync.throw", "internal/sync.runtime_nanotime", "internal/sync.runtime_SemacquireMutex", "sync/atomic.AddInt32", "(*internal/sync.Mutex).Unlock", "internal/race.ReleaseMerge", "(*internal/sync.Mutex).unlockSlow", "internal/sync.fatal", "internal/sync.runtime_Semrelease"], apart := false, narrowed := true }
def FnQueueAgainUptoSaid : Prop := fnQueueAgainUptoRow.holds Try.pinned (OpenSpec.upto fnQueueAgainSpec)

/-- 'laws.FnQueueHolds', WHERE WHAT IT READS IS OF BULK AT MOST 1048576: true; the input reads as it did. -/
def fnQueueHoldsUptoRow : OpenClaim := { program := "ytmmggofbpcmliaa", sum := "1046f55ae3ebf390101617cffdfb490e9e0574fcfe72dc2cd1f4bf4f2eff3b59", func := "pub-quirehand/laws.FnQueueHolds", spec := "fnQueueHolds", inPlace := ["(*internal/sync.Mutex).Lock", "internal/race.Disable", "sync/atomic.CompareAndSwapInt32", "internal/race.Enable", "internal/race.Acquire", "(*internal/sync.Mutex).lockSlow", "internal/sync.runtime_canSpin", "internal/sync.runtime_doSpin", "internal/sync.throw", "internal/sync.runtime_nanotime", "internal/sync.runtime_SemacquireMutex", "sync/atomic.AddInt32", "(*internal/sync.Mutex).Unlock", "internal/race.ReleaseMerge", "(*internal/sync.Mutex).unlockSlow", "internal/sync.fatal", "internal/sync.runtime_Semrelease"], apart := false, narrowed := true }
def FnQueueHoldsUptoSaid : Prop := fnQueueHoldsUptoRow.holds Try.pinned (OpenSpec.upto fnQueueHoldsSpec)

/-- 'laws.FnQueueOrder', WHERE WHAT IT READS IS OF BULK AT MOST 1048576: true; the input reads as it did. -/
def fnQueueOrderUptoRow : OpenClaim := { program := "ytmmggofbpcmliaa", sum := "1046f55ae3ebf390101617cffdfb490e9e0574fcfe72dc2cd1f4bf4f2eff3b59", func := "pub-quirehand/laws.FnQueueOrder", spec := "fnQueueOrder", inPlace := ["(*internal/sync.Mutex).Lock", "internal/race.Disable", "sync/atomic.CompareAndSwapInt32", "internal/race.Enable", "internal/race.Acquire", "(*internal/sync.Mutex).lockSlow", "internal/sync.runtime_canSpin", "internal/sync.runtime_doSpin", "internal/sync.throw", "internal/sync.runtime_nanotime", "internal/sync.runtime_SemacquireMutex", "sync/atomic.AddInt32", "(*internal/sync.Mutex).Unlock", "internal/race.ReleaseMerge", "(*internal/sync.Mutex).unlockSlow", "internal/sync.fatal", "internal/sync.runtime_Semrelease"], apart := false, narrowed := true }
def FnQueueOrderUptoSaid : Prop := fnQueueOrderUptoRow.holds Try.pinned (OpenSpec.upto fnQueueOrderSpec)

/-- 'laws.FnOrdered', WHERE WHAT IT READS IS OF BULK AT MOST 1048576: true; the input reads as it did. -/
def fnOrderedUptoRow : OpenClaim := { program := "ytmmggofbpcmliaa", sum := "1046f55ae3ebf390101617cffdfb490e9e0574fcfe72dc2cd1f4bf4f2eff3b59", func := "pub-quirehand/laws.FnOrdered", spec := "fnOrdered", unfollowed := true, recurses := true, apart := false, narrowed := true }
def FnOrderedUptoSaid : Prop := fnOrderedUptoRow.holds Try.pinned (OpenSpec.upto fnOrderedSpec)

/-- 'laws.FnOrderedAnew', WHERE WHAT IT READS IS OF BULK AT MOST 1048576: true; the input reads as it did. -/
def fnOrderedAnewUptoRow : OpenClaim := { program := "ytmmggofbpcmliaa", sum := "1046f55ae3ebf390101617cffdfb490e9e0574fcfe72dc2cd1f4bf4f2eff3b59", func := "pub-quirehand/laws.FnOrderedAnew", spec := "fnOrderedAnew", unfollowed := true, recurses := true, apart := false, narrowed := true }
def FnOrderedAnewUptoSaid : Prop := fnOrderedAnewUptoRow.holds Try.pinned (OpenSpec.upto fnOrderedAnewSpec)

/-- 'laws.FnOrderedClone', WHERE WHAT IT READS IS OF BULK AT MOST 1048576: true; the input reads as it did. -/
def fnOrderedCloneUptoRow : OpenClaim := { program := "ytmmggofbpcmliaa", sum := "1046f55ae3ebf390101617cffdfb490e9e0574fcfe72dc2cd1f4bf4f2eff3b59", func := "pub-quirehand/laws.FnOrderedClone", spec := "fnOrderedClone", unfollowed := true, recurses := true, apart := false, narrowed := true }
def FnOrderedCloneUptoSaid : Prop := fnOrderedCloneUptoRow.holds Try.pinned (OpenSpec.upto fnOrderedCloneSpec)

/-- 'laws.FnOrderedFirst', WHERE WHAT IT READS IS OF BULK AT MOST 1048576: true; the input reads as it did. -/
def fnOrderedFirstUptoRow : OpenClaim := { program := "ytmmggofbpcmliaa", sum := "1046f55ae3ebf390101617cffdfb490e9e0574fcfe72dc2cd1f4bf4f2eff3b59", func := "pub-quirehand/laws.FnOrderedFirst", spec := "fnOrderedFirst", unfollowed := true, recurses := true, apart := false, narrowed := true }
def FnOrderedFirstUptoSaid : Prop := fnOrderedFirstUptoRow.holds Try.pinned (OpenSpec.upto fnOrderedFirstSpec)

/-- 'laws.FnOrderedKeys', WHERE WHAT IT READS IS OF BULK AT MOST 1048576: true; the input reads as it did. -/
def fnOrderedKeysUptoRow : OpenClaim := { program := "ytmmggofbpcmliaa", sum := "1046f55ae3ebf390101617cffdfb490e9e0574fcfe72dc2cd1f4bf4f2eff3b59", func := "pub-quirehand/laws.FnOrderedKeys", spec := "fnOrderedKeys", unfollowed := true, recurses := true, apart := false, narrowed := true }
def FnOrderedKeysUptoSaid : Prop := fnOrderedKeysUptoRow.holds Try.pinned (OpenSpec.upto fnOrderedKeysSpec)

/-- 'laws.FnOrderedRange', WHERE WHAT IT READS IS OF BULK AT MOST 1048576: true; the input reads as it did. -/
def fnOrderedRangeUptoRow : OpenClaim := { program := "ytmmggofbpcmliaa", sum := "1046f55ae3ebf390101617cffdfb490e9e0574fcfe72dc2cd1f4bf4f2eff3b59", func := "pub-quirehand/laws.FnOrderedRange", spec := "fnOrderedRange", unfollowed := true, recurses := true, apart := false, narrowed := true }
def FnOrderedRangeUptoSaid : Prop := fnOrderedRangeUptoRow.holds Try.pinned (OpenSpec.upto fnOrderedRangeSpec)

/-- 'laws.FnOrderedSet', WHERE WHAT IT READS IS OF BULK AT MOST 1048576: true; the input reads as it did. -/
def fnOrderedSetUptoRow : OpenClaim := { program := "ytmmggofbpcmliaa", sum := "1046f55ae3ebf390101617cffdfb490e9e0574fcfe72dc2cd1f4bf4f2eff3b59", func := "pub-quirehand/laws.FnOrderedSet", spec := "fnOrderedSet", unfollowed := true, recurses := true, apart := false, narrowed := true }
def FnOrderedSetUptoSaid : Prop := fnOrderedSetUptoRow.holds Try.pinned (OpenSpec.upto fnOrderedSetSpec)

end Rows
end Go.Proofs.Ytmmggofbpcmliaa
