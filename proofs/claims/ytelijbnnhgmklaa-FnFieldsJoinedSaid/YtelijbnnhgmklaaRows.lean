/-
  No cell of these rows narrows 'for every input' (looked for: loops, veiled, ifaces, maps, wideKeys, modest, calm, conditions, laid).
  DERIVED. THE GIVEN ROWS OF THIS SEAT. 7 by the template 'for every input the law returns true; each argument reads behind the call as it read before'; 0 by the template 'total and deterministic' (their statements: YtelijbnnhgmklaaTotals.lean).
  GIVEN WITH THE SEED: the statements are not yours to turn. If you find one false, say at which input.
  Laid BY PROGRAM, IN A SANDBOX (cutbox-rows.mjs): the forced cells as the released guide's own fill.sh prints them over the translation 819a1a0b0c17f568… (all of the seat's roots in one cut). By AI agents, Wed Nov 11 2026. No macro, syntax, notation, axiom, sorry.
-/
import Derived.Test.YtelijbnnhgmklaaChecked
import GoSem.Claim
import GoSem.ClaimJoined
import GoSem.ClaimMapViews
import Derived.JoinedTies
import Derived.KernelRfl
namespace Go.Proofs.Ytelijbnnhgmklaa
/- THE CELL 'sum', in the pinned program and in every row, IS THE sha256 OF THE DUMP (.gsa) THAT YtelijbnnhgmklaaProg.lean LOADS. Nothing in Lean hashes anything: it is a label: what it is worth is what the hold of that sum in a sandbox is worth. -/
noncomputable def Try.pinned : Pinned := { name := "ytelijbnnhgmklaa", sum := "819a1a0b0c17f568e3673659397477456592c2001777d4effcc56c21402229c7", checked := Try.checked }
namespace Rows
def none {H : Type} : Left H := { results := [], args := [] }

/-- 'laws.FnDir': WHATEVER THE INPUT: true; the input reads as it did. -/
def fnDirSpec : ChangeSpec := { name := "fnDir", fn := fun _ => fun
  | [d] => { results := [.lit (.bool true)], args := [d] }
  | _ => none }
def fnDirRow : OpenClaim := { program := "ytelijbnnhgmklaa", sum := "819a1a0b0c17f568e3673659397477456592c2001777d4effcc56c21402229c7", func := "pub-quirehand/laws.FnDir", spec := "fnDir", apart := false }
def FnDirSaid : Prop := fnDirRow.holds Try.pinned (OpenSpec.ofChange fnDirSpec)

/-- ITS FALSE NEIGHBOUR: 'it returns false'. Refute it at one input. -/
def fnDirWrong : ChangeSpec := { name := "fnDir", fn := fun _ => fun
  | [d] => { results := [.lit (.bool false)], args := [d] }
  | _ => none }
def FnDirWrongFalsely : Prop := fnDirRow.holds Try.pinned (OpenSpec.ofChange fnDirWrong)

/-- 'laws.FnDirJoined': WHATEVER THE INPUT: true; the input reads as it did. -/
def fnDirJoinedSpec : ChangeSpec := { name := "fnDirJoined", fn := fun _ => fun
  | [d1, d2] => { results := [.lit (.bool true)], args := [d1, d2] }
  | _ => none }
def fnDirJoinedRow : OpenClaim := { program := "ytelijbnnhgmklaa", sum := "819a1a0b0c17f568e3673659397477456592c2001777d4effcc56c21402229c7", func := "pub-quirehand/laws.FnDirJoined", spec := "fnDirJoined", apart := false }
def FnDirJoinedSaid : Prop := fnDirJoinedRow.holds Try.pinned (OpenSpec.ofChange fnDirJoinedSpec)

/-- ITS FALSE NEIGHBOUR: 'it returns false'. Refute it at one input. -/
def fnDirJoinedWrong : ChangeSpec := { name := "fnDirJoined", fn := fun _ => fun
  | [d1, d2] => { results := [.lit (.bool false)], args := [d1, d2] }
  | _ => none }
def FnDirJoinedWrongFalsely : Prop := fnDirJoinedRow.holds Try.pinned (OpenSpec.ofChange fnDirJoinedWrong)

/-- 'laws.FnElements': WHATEVER THE INPUT: true; the input reads as it did. -/
def fnElementsSpec : ChangeSpec := { name := "fnElements", fn := fun _ => fun
  | [d] => { results := [.lit (.bool true)], args := [d] }
  | _ => none }
def fnElementsRow : OpenClaim := { program := "ytelijbnnhgmklaa", sum := "819a1a0b0c17f568e3673659397477456592c2001777d4effcc56c21402229c7", func := "pub-quirehand/laws.FnElements", spec := "fnElements", apart := false }
def FnElementsSaid : Prop := fnElementsRow.holds Try.pinned (OpenSpec.ofChange fnElementsSpec)

/-- ITS FALSE NEIGHBOUR: 'it returns false'. Refute it at one input. -/
def fnElementsWrong : ChangeSpec := { name := "fnElements", fn := fun _ => fun
  | [d] => { results := [.lit (.bool false)], args := [d] }
  | _ => none }
def FnElementsWrongFalsely : Prop := fnElementsRow.holds Try.pinned (OpenSpec.ofChange fnElementsWrong)

/-- 'laws.FnVoidBlocks': WHATEVER THE INPUT: true; the input reads as it did. -/
def fnVoidBlocksSpec : ChangeSpec := { name := "fnVoidBlocks", fn := fun _ => fun
  | [d] => { results := [.lit (.bool true)], args := [d] }
  | _ => none }
def fnVoidBlocksRow : OpenClaim := { program := "ytelijbnnhgmklaa", sum := "819a1a0b0c17f568e3673659397477456592c2001777d4effcc56c21402229c7", func := "pub-quirehand/laws.FnVoidBlocks", spec := "fnVoidBlocks", apart := false }
def FnVoidBlocksSaid : Prop := fnVoidBlocksRow.holds Try.pinned (OpenSpec.ofChange fnVoidBlocksSpec)

/-- ITS FALSE NEIGHBOUR: 'it returns false'. Refute it at one input. -/
def fnVoidBlocksWrong : ChangeSpec := { name := "fnVoidBlocks", fn := fun _ => fun
  | [d] => { results := [.lit (.bool false)], args := [d] }
  | _ => none }
def FnVoidBlocksWrongFalsely : Prop := fnVoidBlocksRow.holds Try.pinned (OpenSpec.ofChange fnVoidBlocksWrong)

/-- 'laws.FnSlashesTwice': WHATEVER THE INPUT: true; the input reads as it did. -/
def fnSlashesTwiceSpec : ChangeSpec := { name := "fnSlashesTwice", fn := fun _ => fun
  | [d] => { results := [.lit (.bool true)], args := [d] }
  | _ => none }
def fnSlashesTwiceRow : OpenClaim := { program := "ytelijbnnhgmklaa", sum := "819a1a0b0c17f568e3673659397477456592c2001777d4effcc56c21402229c7", func := "pub-quirehand/laws.FnSlashesTwice", spec := "fnSlashesTwice", apart := false }
def FnSlashesTwiceSaid : Prop := fnSlashesTwiceRow.holds Try.pinned (OpenSpec.ofChange fnSlashesTwiceSpec)

/-- ITS FALSE NEIGHBOUR: 'it returns false'. Refute it at one input. -/
def fnSlashesTwiceWrong : ChangeSpec := { name := "fnSlashesTwice", fn := fun _ => fun
  | [d] => { results := [.lit (.bool false)], args := [d] }
  | _ => none }
def FnSlashesTwiceWrongFalsely : Prop := fnSlashesTwiceRow.holds Try.pinned (OpenSpec.ofChange fnSlashesTwiceWrong)

/-- 'laws.FnFields': WHATEVER THE INPUT: true; the input reads as it did. -/
def fnFieldsSpec : ChangeSpec := { name := "fnFields", fn := fun _ => fun
  | [d] => { results := [.lit (.bool true)], args := [d] }
  | _ => none }
def fnFieldsRow : OpenClaim := { program := "ytelijbnnhgmklaa", sum := "819a1a0b0c17f568e3673659397477456592c2001777d4effcc56c21402229c7", func := "pub-quirehand/laws.FnFields", spec := "fnFields", unfollowed := true, recurses := true, apart := false }
def FnFieldsSaid : Prop := fnFieldsRow.holds Try.pinned (OpenSpec.ofChange fnFieldsSpec)

/-- ITS FALSE NEIGHBOUR: 'it returns false'. Refute it at one input. -/
def fnFieldsWrong : ChangeSpec := { name := "fnFields", fn := fun _ => fun
  | [d] => { results := [.lit (.bool false)], args := [d] }
  | _ => none }
def FnFieldsWrongFalsely : Prop := fnFieldsRow.holds Try.pinned (OpenSpec.ofChange fnFieldsWrong)

/-- 'laws.FnFieldsJoined': WHATEVER THE INPUT: true; the input reads as it did. -/
def fnFieldsJoinedSpec : ChangeSpec := { name := "fnFieldsJoined", fn := fun _ => fun
  | [d1, d2] => { results := [.lit (.bool true)], args := [d1, d2] }
  | _ => none }
def fnFieldsJoinedRow : OpenClaim := { program := "ytelijbnnhgmklaa", sum := "819a1a0b0c17f568e3673659397477456592c2001777d4effcc56c21402229c7", func := "pub-quirehand/laws.FnFieldsJoined", spec := "fnFieldsJoined", unfollowed := true, recurses := true, apart := false }
def FnFieldsJoinedSaid : Prop := fnFieldsJoinedRow.holds Try.pinned (OpenSpec.ofChange fnFieldsJoinedSpec)

/-- ITS FALSE NEIGHBOUR: 'it returns false'. Refute it at one input. -/
def fnFieldsJoinedWrong : ChangeSpec := { name := "fnFieldsJoined", fn := fun _ => fun
  | [d1, d2] => { results := [.lit (.bool false)], args := [d1, d2] }
  | _ => none }
def FnFieldsJoinedWrongFalsely : Prop := fnFieldsJoinedRow.holds Try.pinned (OpenSpec.ofChange fnFieldsJoinedWrong)

/- THE SECOND FORM. 'bulk': how many values and letters a reading holds, each counted each time it is reached (what is shared counts as often as it is met; a slice's spare places count too). A statement '..UptoSaid' is the law's where the arguments, and the package variables that the reading takes, are together of bulk at most 1048576: NARROWER than '..Said'. Prove '..Said' where nothing that the law and all that it calls make is longer than what came in: it says more and counts as full. Else prove '..UptoSaid'. A law counts once. -/
mutual
def uptoBulk {H : Type} : DataW H → Nat
  | .lit (.string bytes) => bytes.length + 1
  | .lit _ => 1
  | .nil => 1
  | .ptr d => uptoBulk d + 1
  | .slice elems spare => uptoBulkAll elems + uptoBulkAll spare + 1
  | .agg parts => uptoBulkAll parts + 1
  | .iface _ d => uptoBulk d + 1
  | .map entries => uptoBulkEntries entries + 1
  | .held _ => 1
def uptoBulkAll {H : Type} : List (DataW H) → Nat
  | [] => 0
  | d :: r => uptoBulk d + uptoBulkAll r
def uptoBulkEntries {H : Type} : List (Lit × DataW H) → Nat
  | [] => 0
  | x :: r => uptoBulkEntry x + uptoBulkEntries r
def uptoBulkEntry {H : Type} : Lit × DataW H → Nat
  | (.string bytes, d) => bytes.length + uptoBulk d + 1
  | (_, d) => uptoBulk d + 1
 end
def uptoSmall : (H : Type) → List (DataW H) → Bool := fun _ ds => decide (uptoBulkAll ds ≤ 1048576)
def OpenSpec.upto (s : _root_.Go.ChangeSpec) : _root_.Go.OpenSpec := { _root_.Go.OpenSpec.ofChange s with cond := some uptoSmall }

/-- 'laws.FnDir', WHERE WHAT IT READS IS OF BULK AT MOST 1048576: true; the input reads as it did. -/
def fnDirUptoRow : OpenClaim := { program := "ytelijbnnhgmklaa", sum := "819a1a0b0c17f568e3673659397477456592c2001777d4effcc56c21402229c7", func := "pub-quirehand/laws.FnDir", spec := "fnDir", apart := false, narrowed := true }
def FnDirUptoSaid : Prop := fnDirUptoRow.holds Try.pinned (OpenSpec.upto fnDirSpec)

/-- 'laws.FnDirJoined', WHERE WHAT IT READS IS OF BULK AT MOST 1048576: true; the input reads as it did. -/
def fnDirJoinedUptoRow : OpenClaim := { program := "ytelijbnnhgmklaa", sum := "819a1a0b0c17f568e3673659397477456592c2001777d4effcc56c21402229c7", func := "pub-quirehand/laws.FnDirJoined", spec := "fnDirJoined", apart := false, narrowed := true }
def FnDirJoinedUptoSaid : Prop := fnDirJoinedUptoRow.holds Try.pinned (OpenSpec.upto fnDirJoinedSpec)

/-- 'laws.FnElements', WHERE WHAT IT READS IS OF BULK AT MOST 1048576: true; the input reads as it did. -/
def fnElementsUptoRow : OpenClaim := { program := "ytelijbnnhgmklaa", sum := "819a1a0b0c17f568e3673659397477456592c2001777d4effcc56c21402229c7", func := "pub-quirehand/laws.FnElements", spec := "fnElements", apart := false, narrowed := true }
def FnElementsUptoSaid : Prop := fnElementsUptoRow.holds Try.pinned (OpenSpec.upto fnElementsSpec)

/-- 'laws.FnVoidBlocks', WHERE WHAT IT READS IS OF BULK AT MOST 1048576: true; the input reads as it did. -/
def fnVoidBlocksUptoRow : OpenClaim := { program := "ytelijbnnhgmklaa", sum := "819a1a0b0c17f568e3673659397477456592c2001777d4effcc56c21402229c7", func := "pub-quirehand/laws.FnVoidBlocks", spec := "fnVoidBlocks", apart := false, narrowed := true }
def FnVoidBlocksUptoSaid : Prop := fnVoidBlocksUptoRow.holds Try.pinned (OpenSpec.upto fnVoidBlocksSpec)

/-- 'laws.FnSlashesTwice', WHERE WHAT IT READS IS OF BULK AT MOST 1048576: true; the input reads as it did. -/
def fnSlashesTwiceUptoRow : OpenClaim := { program := "ytelijbnnhgmklaa", sum := "819a1a0b0c17f568e3673659397477456592c2001777d4effcc56c21402229c7", func := "pub-quirehand/laws.FnSlashesTwice", spec := "fnSlashesTwice", apart := false, narrowed := true }
def FnSlashesTwiceUptoSaid : Prop := fnSlashesTwiceUptoRow.holds Try.pinned (OpenSpec.upto fnSlashesTwiceSpec)

/-- 'laws.FnFields', WHERE WHAT IT READS IS OF BULK AT MOST 1048576: true; the input reads as it did. -/
def fnFieldsUptoRow : OpenClaim := { program := "ytelijbnnhgmklaa", sum := "819a1a0b0c17f568e3673659397477456592c2001777d4effcc56c21402229c7", func := "pub-quirehand/laws.FnFields", spec := "fnFields", unfollowed := true, recurses := true, apart := false, narrowed := true }
def FnFieldsUptoSaid : Prop := fnFieldsUptoRow.holds Try.pinned (OpenSpec.upto fnFieldsSpec)

/-- 'laws.FnFieldsJoined', WHERE WHAT IT READS IS OF BULK AT MOST 1048576: true; the input reads as it did. -/
def fnFieldsJoinedUptoRow : OpenClaim := { program := "ytelijbnnhgmklaa", sum := "819a1a0b0c17f568e3673659397477456592c2001777d4effcc56c21402229c7", func := "pub-quirehand/laws.FnFieldsJoined", spec := "fnFieldsJoined", unfollowed := true, recurses := true, apart := false, narrowed := true }
def FnFieldsJoinedUptoSaid : Prop := fnFieldsJoinedUptoRow.holds Try.pinned (OpenSpec.upto fnFieldsJoinedSpec)

end Rows
end Go.Proofs.Ytelijbnnhgmklaa
