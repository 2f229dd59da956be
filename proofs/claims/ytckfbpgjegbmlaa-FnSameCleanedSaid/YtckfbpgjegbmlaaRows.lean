/-
  No cell of these rows narrows 'for every input' (looked for: loops, veiled, ifaces, maps, wideKeys, modest, calm, conditions, laid).
  DERIVED. THE GIVEN ROWS OF THIS SEAT. 6 by the template 'for every input the law returns true; each argument reads behind the call as it read before'; 0 by the template 'total and deterministic' (their statements: YtckfbpgjegbmlaaTotals.lean).
  GIVEN WITH THE SEED: the statements are not yours to turn. If you find one false, say at which input.
  Laid BY PROGRAM, IN A SANDBOX (cutbox-rows.mjs): the forced cells as the released guide's own fill.sh prints them over the translation 21b64d7bb2a177b7… (all of the seat's roots in one cut). By AI agents, Wed Nov 11 2026. No macro, syntax, notation, axiom, sorry.
-/
import Derived.Test.YtckfbpgjegbmlaaChecked
import GoSem.Claim
import GoSem.ClaimJoined
import GoSem.ClaimMapViews
import Derived.JoinedTies
import Derived.KernelRfl
namespace Go.Proofs.Ytckfbpgjegbmlaa
/- THE CELL 'sum', in the pinned program and in every row, IS THE sha256 OF THE DUMP (.gsa) THAT YtckfbpgjegbmlaaProg.lean LOADS. Nothing in Lean hashes anything: it is a label: what it is worth is what the hold of that sum in a sandbox is worth. -/
noncomputable def Try.pinned : Pinned := { name := "ytckfbpgjegbmlaa", sum := "21b64d7bb2a177b7b1a44f92d2d17c70575e84c2b3582da6c7d355af96b16443", checked := Try.checked }
namespace Rows
def none {H : Type} : Left H := { results := [], args := [] }

/-- 'laws.FnSlashes': WHATEVER THE INPUT: true; the input reads as it did. -/
def fnSlashesSpec : ChangeSpec := { name := "fnSlashes", fn := fun _ => fun
  | [d] => { results := [.lit (.bool true)], args := [d] }
  | _ => none }
def fnSlashesRow : OpenClaim := { program := "ytckfbpgjegbmlaa", sum := "21b64d7bb2a177b7b1a44f92d2d17c70575e84c2b3582da6c7d355af96b16443", func := "pub-quirehand/laws.FnSlashes", spec := "fnSlashes", inPlace := ["internal/bytealg.IndexByteString"], apart := false }
def FnSlashesSaid : Prop := fnSlashesRow.holds Try.pinned (OpenSpec.ofChange fnSlashesSpec)

/-- ITS FALSE NEIGHBOUR: 'it returns false'. Refute it at one input. -/
def fnSlashesWrong : ChangeSpec := { name := "fnSlashes", fn := fun _ => fun
  | [d] => { results := [.lit (.bool false)], args := [d] }
  | _ => none }
def FnSlashesWrongFalsely : Prop := fnSlashesRow.holds Try.pinned (OpenSpec.ofChange fnSlashesWrong)

/-- 'laws.FnSlashesTrimmed': WHATEVER THE INPUT: true; the input reads as it did. -/
def fnSlashesTrimmedSpec : ChangeSpec := { name := "fnSlashesTrimmed", fn := fun _ => fun
  | [d] => { results := [.lit (.bool true)], args := [d] }
  | _ => none }
def fnSlashesTrimmedRow : OpenClaim := { program := "ytckfbpgjegbmlaa", sum := "21b64d7bb2a177b7b1a44f92d2d17c70575e84c2b3582da6c7d355af96b16443", func := "pub-quirehand/laws.FnSlashesTrimmed", spec := "fnSlashesTrimmed", inPlace := ["internal/bytealg.IndexByteString"], apart := false }
def FnSlashesTrimmedSaid : Prop := fnSlashesTrimmedRow.holds Try.pinned (OpenSpec.ofChange fnSlashesTrimmedSpec)

/-- ITS FALSE NEIGHBOUR: 'it returns false'. Refute it at one input. -/
def fnSlashesTrimmedWrong : ChangeSpec := { name := "fnSlashesTrimmed", fn := fun _ => fun
  | [d] => { results := [.lit (.bool false)], args := [d] }
  | _ => none }
def FnSlashesTrimmedWrongFalsely : Prop := fnSlashesTrimmedRow.holds Try.pinned (OpenSpec.ofChange fnSlashesTrimmedWrong)

/-- 'laws.FnSameCleaned': WHATEVER THE INPUT: true; the input reads as it did. -/
def fnSameCleanedSpec : ChangeSpec := { name := "fnSameCleaned", fn := fun _ => fun
  | [d1, d2, d3] => { results := [.lit (.bool true)], args := [d1, d2, d3] }
  | _ => none }
def fnSameCleanedRow : OpenClaim := { program := "ytckfbpgjegbmlaa", sum := "21b64d7bb2a177b7b1a44f92d2d17c70575e84c2b3582da6c7d355af96b16443", func := "pub-quirehand/laws.FnSameCleaned", spec := "fnSameCleaned", inPlace := ["internal/bytealg.IndexByteString"], apart := false }
def FnSameCleanedSaid : Prop := fnSameCleanedRow.holds Try.pinned (OpenSpec.ofChange fnSameCleanedSpec)

/-- ITS FALSE NEIGHBOUR: 'it returns false'. Refute it at one input. -/
def fnSameCleanedWrong : ChangeSpec := { name := "fnSameCleaned", fn := fun _ => fun
  | [d1, d2, d3] => { results := [.lit (.bool false)], args := [d1, d2, d3] }
  | _ => none }
def FnSameCleanedWrongFalsely : Prop := fnSameCleanedRow.holds Try.pinned (OpenSpec.ofChange fnSameCleanedWrong)

/-- 'laws.FnSamePath': WHATEVER THE INPUT: true; the input reads as it did. -/
def fnSamePathSpec : ChangeSpec := { name := "fnSamePath", fn := fun _ => fun
  | [d1, d2] => { results := [.lit (.bool true)], args := [d1, d2] }
  | _ => none }
def fnSamePathRow : OpenClaim := { program := "ytckfbpgjegbmlaa", sum := "21b64d7bb2a177b7b1a44f92d2d17c70575e84c2b3582da6c7d355af96b16443", func := "pub-quirehand/laws.FnSamePath", spec := "fnSamePath", inPlace := ["internal/bytealg.IndexByteString"], apart := false }
def FnSamePathSaid : Prop := fnSamePathRow.holds Try.pinned (OpenSpec.ofChange fnSamePathSpec)

/-- ITS FALSE NEIGHBOUR: 'it returns false'. Refute it at one input. -/
def fnSamePathWrong : ChangeSpec := { name := "fnSamePath", fn := fun _ => fun
  | [d1, d2] => { results := [.lit (.bool false)], args := [d1, d2] }
  | _ => none }
def FnSamePathWrongFalsely : Prop := fnSamePathRow.holds Try.pinned (OpenSpec.ofChange fnSamePathWrong)

/-- 'laws.FnAbsAlone': WHATEVER THE INPUT: true; the input reads as it did. -/
def fnAbsAloneSpec : ChangeSpec := { name := "fnAbsAlone", fn := fun _ => fun
  | [d1, d2, d3] => { results := [.lit (.bool true)], args := [d1, d2, d3] }
  | _ => none }
def fnAbsAloneRow : OpenClaim := { program := "ytckfbpgjegbmlaa", sum := "21b64d7bb2a177b7b1a44f92d2d17c70575e84c2b3582da6c7d355af96b16443", func := "pub-quirehand/laws.FnAbsAlone", spec := "fnAbsAlone", inPlace := ["internal/bytealg.IndexByteString", "internal/abi.NoEscape", "internal/bytealg.MakeNoZero"], apart := false }
def FnAbsAloneSaid : Prop := fnAbsAloneRow.holds Try.pinned (OpenSpec.ofChange fnAbsAloneSpec)

/-- ITS FALSE NEIGHBOUR: 'it returns false'. Refute it at one input. -/
def fnAbsAloneWrong : ChangeSpec := { name := "fnAbsAlone", fn := fun _ => fun
  | [d1, d2, d3] => { results := [.lit (.bool false)], args := [d1, d2, d3] }
  | _ => none }
def FnAbsAloneWrongFalsely : Prop := fnAbsAloneRow.holds Try.pinned (OpenSpec.ofChange fnAbsAloneWrong)

/-- 'laws.FnAbsPath': WHATEVER THE INPUT: true; the input reads as it did. -/
def fnAbsPathSpec : ChangeSpec := { name := "fnAbsPath", fn := fun _ => fun
  | [d1, d2] => { results := [.lit (.bool true)], args := [d1, d2] }
  | _ => none }
def fnAbsPathRow : OpenClaim := { program := "ytckfbpgjegbmlaa", sum := "21b64d7bb2a177b7b1a44f92d2d17c70575e84c2b3582da6c7d355af96b16443", func := "pub-quirehand/laws.FnAbsPath", spec := "fnAbsPath", inPlace := ["internal/bytealg.IndexByteString", "internal/abi.NoEscape", "internal/bytealg.MakeNoZero"], apart := false }
def FnAbsPathSaid : Prop := fnAbsPathRow.holds Try.pinned (OpenSpec.ofChange fnAbsPathSpec)

/-- ITS FALSE NEIGHBOUR: 'it returns false'. Refute it at one input. -/
def fnAbsPathWrong : ChangeSpec := { name := "fnAbsPath", fn := fun _ => fun
  | [d1, d2] => { results := [.lit (.bool false)], args := [d1, d2] }
  | _ => none }
def FnAbsPathWrongFalsely : Prop := fnAbsPathRow.holds Try.pinned (OpenSpec.ofChange fnAbsPathWrong)

/- THE SECOND FORM. 'bulk': how many values and letters a reading holds, each counted each time it is reached (what is shared counts as often as it is met; a slice's spare places count too). A statement '..UptoSaid' is the law's where the arguments, and the package variables that the reading takes, are together of bulk at most 1048576: NARROWER than '..Said'. Prove '..Said' where nothing that the law and all that it calls make is longer than what came in: it says more and counts as full. Else prove '..UptoSaid'. A law counts once. -/
mutual
def uptoBulk {H : Type} : DataW H → Nat
  | .lit (.string bytes) => bytes.length + 1
  | .lit _ => 1
  | .nil => 1
  | .ptr d => uptoBulk d + 1
  | .slice elems spare => uptoBulkAll elems + uptoBulkAll spare + 1
  | .agg parts => uptoBulkAll parts + 1
  | .iface _ d => uptoBulk d + 1
  | .map entries => uptoBulkEntries entries + 1
  | .held _ => 1
def uptoBulkAll {H : Type} : List (DataW H) → Nat
  | [] => 0
  | d :: r => uptoBulk d + uptoBulkAll r
def uptoBulkEntries {H : Type} : List (Lit × DataW H) → Nat
  | [] => 0
  | x :: r => uptoBulkEntry x + uptoBulkEntries r
def uptoBulkEntry {H : Type} : Lit × DataW H → Nat
  | (.string bytes, d) => bytes.length + uptoBulk d + 1
  | (_, d) => uptoBulk d + 1
 end
def uptoSmall : (H : Type) → List (DataW H) → Bool := fun _ ds => decide (uptoBulkAll ds ≤ 1048576)
def OpenSpec.upto (s : _root_.Go.ChangeSpec) : _root_.Go.OpenSpec := { _root_.Go.OpenSpec.ofChange s with cond := some uptoSmall }

/-- 'laws.FnSlashes', WHERE WHAT IT READS IS OF BULK AT MOST 1048576: true; the input reads as it did. -/
def fnSlashesUptoRow : OpenClaim := { program := "ytckfbpgjegbmlaa", sum := "21b64d7bb2a177b7b1a44f92d2d17c70575e84c2b3582da6c7d355af96b16443", func := "pub-quirehand/laws.FnSlashes", spec := "fnSlashes", inPlace := ["internal/bytealg.IndexByteString"], apart := false, narrowed := true }
def FnSlashesUptoSaid : Prop := fnSlashesUptoRow.holds Try.pinned (OpenSpec.upto fnSlashesSpec)

/-- 'laws.FnSlashesTrimmed', WHERE WHAT IT READS IS OF BULK AT MOST 1048576: true; the input reads as it did. -/
def fnSlashesTrimmedUptoRow : OpenClaim := { program := "ytckfbpgjegbmlaa", sum := "21b64d7bb2a177b7b1a44f92d2d17c70575e84c2b3582da6c7d355af96b16443", func := "pub-quirehand/laws.FnSlashesTrimmed", spec := "fnSlashesTrimmed", inPlace := ["internal/bytealg.IndexByteString"], apart := false, narrowed := true }
def FnSlashesTrimmedUptoSaid : Prop := fnSlashesTrimmedUptoRow.holds Try.pinned (OpenSpec.upto fnSlashesTrimmedSpec)

/-- 'laws.FnSameCleaned', WHERE WHAT IT READS IS OF BULK AT MOST 1048576: true; the input reads as it did. -/
def fnSameCleanedUptoRow : OpenClaim := { program := "ytckfbpgjegbmlaa", sum := "21b64d7bb2a177b7b1a44f92d2d17c70575e84c2b3582da6c7d355af96b16443", func := "pub-quirehand/laws.FnSameCleaned", spec := "fnSameCleaned", inPlace := ["internal/bytealg.IndexByteString"], apart := false, narrowed := true }
def FnSameCleanedUptoSaid : Prop := fnSameCleanedUptoRow.holds Try.pinned (OpenSpec.upto fnSameCleanedSpec)

/-- 'laws.FnSamePath', WHERE WHAT IT READS IS OF BULK AT MOST 1048576: true; the input reads as it did. -/
def fnSamePathUptoRow : OpenClaim := { program := "ytckfbpgjegbmlaa", sum := "21b64d7bb2a177b7b1a44f92d2d17c70575e84c2b3582da6c7d355af96b16443", func := "pub-quirehand/laws.FnSamePath", spec := "fnSamePath", inPlace := ["internal/bytealg.IndexByteString"], apart := false, narrowed := true }
def FnSamePathUptoSaid : Prop := fnSamePathUptoRow.holds Try.pinned (OpenSpec.upto fnSamePathSpec)

/-- 'laws.FnAbsAlone', WHERE WHAT IT READS IS OF BULK AT MOST 1048576: true; the input reads as it did. -/
def fnAbsAloneUptoRow : OpenClaim := { program := "ytckfbpgjegbmlaa", sum := "21b64d7bb2a177b7b1a44f92d2d17c70575e84c2b3582da6c7d355af96b16443", func := "pub-quirehand/laws.FnAbsAlone", spec := "fnAbsAlone", inPlace := ["internal/bytealg.IndexByteString", "internal/abi.NoEscape", "internal/bytealg.MakeNoZero"], apart := false, narrowed := true }
def FnAbsAloneUptoSaid : Prop := fnAbsAloneUptoRow.holds Try.pinned (OpenSpec.upto fnAbsAloneSpec)

/-- 'laws.FnAbsPath', WHERE WHAT IT READS IS OF BULK AT MOST 1048576: true; the input reads as it did. -/
def fnAbsPathUptoRow : OpenClaim := { program := "ytckfbpgjegbmlaa", sum := "21b64d7bb2a177b7b1a44f92d2d17c70575e84c2b3582da6c7d355af96b16443", func := "pub-quirehand/laws.FnAbsPath", spec := "fnAbsPath", inPlace := ["internal/bytealg.IndexByteString", "internal/abi.NoEscape", "internal/bytealg.MakeNoZero"], apart := false, narrowed := true }
def FnAbsPathUptoSaid : Prop := fnAbsPathUptoRow.holds Try.pinned (OpenSpec.upto fnAbsPathSpec)

end Rows
end Go.Proofs.Ytckfbpgjegbmlaa
