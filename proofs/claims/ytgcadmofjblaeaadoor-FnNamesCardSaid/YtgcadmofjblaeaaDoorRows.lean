/-
  NARROWER THAN 'FOR EVERY INPUT', by the rows' own cells (each row's printed sentence says how): FnExtension: laid · FnNameBuilt: laid · FnNames: laid.
  DERIVED. THE GIVEN ROWS OF THIS SEAT. 3 by the template 'for every input the law returns true; each argument reads behind the call as it read before'; 0 by the template 'total and deterministic' (their statements: YtgcadmofjblaeaaDoorTotals.lean).
  GIVEN WITH THE SEED: the statements are not yours to turn. If you find one false, say at which input.
  Laid BY PROGRAM, IN A SANDBOX (cutbox-rows.mjs): the forced cells as the released guide's own fill.sh prints them over the translation 77b2ab17e394d282… (all of the seat's roots in one cut). By AI agents, Wed Nov 11 2026. No macro, syntax, notation, axiom, sorry.
-/
import Derived.Test.YtgcadmofjblaeaaDoorChecked
import GoSem.Claim
import GoSem.ClaimJoined
import GoSem.ClaimMapViews
import Derived.JoinedTies
import Derived.KernelRfl
namespace Go.Proofs.YtgcadmofjblaeaaDoor
/- THE CELL 'sum', in the pinned program and in every row, IS THE sha256 OF THE DUMP (.gsa) THAT YtgcadmofjblaeaaDoorProg.lean LOADS. Nothing in Lean hashes anything: it is a label: what it is worth is what the hold of that sum in a sandbox is worth. -/
noncomputable def Tryd.pinned : Pinned := { name := "ytgcadmofjblaeaadoor", sum := "77b2ab17e394d282aa22263595dc22a889e36199e4dd7f4895029344d2f63ee8", checked := Tryd.checked }
namespace Rows
def none {H : Type} : Left H := { results := [], args := [] }

/- WHAT THE LISTED PACKAGE-LEVEL VARIABLES READ AS WHEN THE CALL BEGINS. Each datum BY PROGRAM (the guide's laid-datum.mjs) off the statement by which the dump's own 'gosem.cut.vars' lays the variable. In a bare row this is a premise. The card (YtgcadmofjblaeaaDoorCards.lean) ties it to the program's text. -/
def laid_pub_quirehand_pub_hugo_common_paths_fpb {H : Type} : DataW H := .agg []
def laid_pub_quirehand_pub_hugo_common_paths_pb {H : Type} : DataW H := .agg []

/-- 'laws.FnExtension': WHATEVER THE INPUT: true; the input reads as it did. -/
def fnExtensionSpec : ChangeSpec := { name := "fnExtension", fn := fun _ => fun
  | [d] => { results := [.lit (.bool true)], args := [d] }
  | _ => none }
def fnExtensionRow : OpenClaim := { program := "ytgcadmofjblaeaadoor", sum := "77b2ab17e394d282aa22263595dc22a889e36199e4dd7f4895029344d2f63ee8", func := "pub-quirehand/laws.FnExtension", spec := "fnExtension", unfollowed := true, recurses := true, named := ["pub-quirehand/pub/hugo/common/paths.fpb", "pub-quirehand/pub/hugo/common/paths.pb"], apart := false, laid := [("pub-quirehand/pub/hugo/common/paths.fpb", laid_pub_quirehand_pub_hugo_common_paths_fpb), ("pub-quirehand/pub/hugo/common/paths.pb", laid_pub_quirehand_pub_hugo_common_paths_pb)] }
def FnExtensionSaid : Prop := fnExtensionRow.holds Tryd.pinned (OpenSpec.ofChange fnExtensionSpec)

/-- ITS FALSE NEIGHBOUR: 'it returns false'. Refute it at one input. -/
def fnExtensionWrong : ChangeSpec := { name := "fnExtension", fn := fun _ => fun
  | [d] => { results := [.lit (.bool false)], args := [d] }
  | _ => none }
def FnExtensionWrongFalsely : Prop := fnExtensionRow.holds Tryd.pinned (OpenSpec.ofChange fnExtensionWrong)

/-- 'laws.FnNameBuilt': WHATEVER THE INPUT: true; the input reads as it did. -/
def fnNameBuiltSpec : ChangeSpec := { name := "fnNameBuilt", fn := fun _ => fun
  | [d1, d2, d3] => { results := [.lit (.bool true)], args := [d1, d2, d3] }
  | _ => none }
def fnNameBuiltRow : OpenClaim := { program := "ytgcadmofjblaeaadoor", sum := "77b2ab17e394d282aa22263595dc22a889e36199e4dd7f4895029344d2f63ee8", func := "pub-quirehand/laws.FnNameBuilt", spec := "fnNameBuilt", unfollowed := true, recurses := true, named := ["pub-quirehand/pub/hugo/common/paths.fpb"], apart := false, laid := [("pub-quirehand/pub/hugo/common/paths.fpb", laid_pub_quirehand_pub_hugo_common_paths_fpb)] }
def FnNameBuiltSaid : Prop := fnNameBuiltRow.holds Tryd.pinned (OpenSpec.ofChange fnNameBuiltSpec)

/-- ITS FALSE NEIGHBOUR: 'it returns false'. Refute it at one input. -/
def fnNameBuiltWrong : ChangeSpec := { name := "fnNameBuilt", fn := fun _ => fun
  | [d1, d2, d3] => { results := [.lit (.bool false)], args := [d1, d2, d3] }
  | _ => none }
def FnNameBuiltWrongFalsely : Prop := fnNameBuiltRow.holds Tryd.pinned (OpenSpec.ofChange fnNameBuiltWrong)

/-- 'laws.FnNames': WHATEVER THE INPUT: true; the input reads as it did. -/
def fnNamesSpec : ChangeSpec := { name := "fnNames", fn := fun _ => fun
  | [d] => { results := [.lit (.bool true)], args := [d] }
  | _ => none }
def fnNamesRow : OpenClaim := { program := "ytgcadmofjblaeaadoor", sum := "77b2ab17e394d282aa22263595dc22a889e36199e4dd7f4895029344d2f63ee8", func := "pub-quirehand/laws.FnNames", spec := "fnNames", unfollowed := true, recurses := true, named := ["pub-quirehand/pub/hugo/common/paths.fpb", "pub-quirehand/pub/hugo/common/paths.pb"], apart := false, laid := [("pub-quirehand/pub/hugo/common/paths.fpb", laid_pub_quirehand_pub_hugo_common_paths_fpb), ("pub-quirehand/pub/hugo/common/paths.pb", laid_pub_quirehand_pub_hugo_common_paths_pb)] }
def FnNamesSaid : Prop := fnNamesRow.holds Tryd.pinned (OpenSpec.ofChange fnNamesSpec)

/-- ITS FALSE NEIGHBOUR: 'it returns false'. Refute it at one input. -/
def fnNamesWrong : ChangeSpec := { name := "fnNames", fn := fun _ => fun
  | [d] => { results := [.lit (.bool false)], args := [d] }
  | _ => none }
def FnNamesWrongFalsely : Prop := fnNamesRow.holds Tryd.pinned (OpenSpec.ofChange fnNamesWrong)

/- THE SECOND FORM. 'bulk': how many values and letters a reading holds, each counted each time it is reached (what is shared counts as often as it is met; a slice's spare places count too). A statement '..UptoSaid' is the law's where the arguments, and the package variables that the reading takes, are together of bulk at most 1048576: NARROWER than '..Said'. Prove '..Said' where nothing that the law and all that it calls make is longer than what came in: it says more and counts as full. Else prove '..UptoSaid'. A law counts once. -/
mutual
def uptoBulk {H : Type} : DataW H → Nat
  | .lit (.string bytes) => bytes.length + 1
  | .lit _ => 1
  | .nil => 1
  | .ptr d => uptoBulk d + 1
  | .slice elems spare => uptoBulkAll elems + uptoBulkAll spare + 1
  | .agg parts => uptoBulkAll parts + 1
  | .iface _ d => uptoBulk d + 1
  | .map entries => uptoBulkEntries entries + 1
  | .held _ => 1
def uptoBulkAll {H : Type} : List (DataW H) → Nat
  | [] => 0
  | d :: r => uptoBulk d + uptoBulkAll r
def uptoBulkEntries {H : Type} : List (Lit × DataW H) → Nat
  | [] => 0
  | x :: r => uptoBulkEntry x + uptoBulkEntries r
def uptoBulkEntry {H : Type} : Lit × DataW H → Nat
  | (.string bytes, d) => bytes.length + uptoBulk d + 1
  | (_, d) => uptoBulk d + 1
 end
def uptoSmall : (H : Type) → List (DataW H) → Bool := fun _ ds => decide (uptoBulkAll ds ≤ 1048576)
def OpenSpec.upto (s : _root_.Go.ChangeSpec) : _root_.Go.OpenSpec := { _root_.Go.OpenSpec.ofChange s with cond := some uptoSmall }

/-- 'laws.FnExtension', WHERE WHAT IT READS IS OF BULK AT MOST 1048576: true; the input reads as it did. -/
def fnExtensionUptoRow : OpenClaim := { program := "ytgcadmofjblaeaadoor", sum := "77b2ab17e394d282aa22263595dc22a889e36199e4dd7f4895029344d2f63ee8", func := "pub-quirehand/laws.FnExtension", spec := "fnExtension", unfollowed := true, recurses := true, named := ["pub-quirehand/pub/hugo/common/paths.fpb", "pub-quirehand/pub/hugo/common/paths.pb"], apart := false, laid := [("pub-quirehand/pub/hugo/common/paths.fpb", laid_pub_quirehand_pub_hugo_common_paths_fpb), ("pub-quirehand/pub/hugo/common/paths.pb", laid_pub_quirehand_pub_hugo_common_paths_pb)], narrowed := true }
def FnExtensionUptoSaid : Prop := fnExtensionUptoRow.holds Tryd.pinned (OpenSpec.upto fnExtensionSpec)

/-- 'laws.FnNameBuilt', WHERE WHAT IT READS IS OF BULK AT MOST 1048576: true; the input reads as it did. -/
def fnNameBuiltUptoRow : OpenClaim := { program := "ytgcadmofjblaeaadoor", sum := "77b2ab17e394d282aa22263595dc22a889e36199e4dd7f4895029344d2f63ee8", func := "pub-quirehand/laws.FnNameBuilt", spec := "fnNameBuilt", unfollowed := true, recurses := true, named := ["pub-quirehand/pub/hugo/common/paths.fpb"], apart := false, laid := [("pub-quirehand/pub/hugo/common/paths.fpb", laid_pub_quirehand_pub_hugo_common_paths_fpb)], narrowed := true }
def FnNameBuiltUptoSaid : Prop := fnNameBuiltUptoRow.holds Tryd.pinned (OpenSpec.upto fnNameBuiltSpec)

/-- 'laws.FnNames', WHERE WHAT IT READS IS OF BULK AT MOST 1048576: true; the input reads as it did. -/
def fnNamesUptoRow : OpenClaim := { program := "ytgcadmofjblaeaadoor", sum := "77b2ab17e394d282aa22263595dc22a889e36199e4dd7f4895029344d2f63ee8", func := "pub-quirehand/laws.FnNames", spec := "fnNames", unfollowed := true, recurses := true, named := ["pub-quirehand/pub/hugo/common/paths.fpb", "pub-quirehand/pub/hugo/common/paths.pb"], apart := false, laid := [("pub-quirehand/pub/hugo/common/paths.fpb", laid_pub_quirehand_pub_hugo_common_paths_fpb), ("pub-quirehand/pub/hugo/common/paths.pb", laid_pub_quirehand_pub_hugo_common_paths_pb)], narrowed := true }
def FnNamesUptoSaid : Prop := fnNamesUptoRow.holds Tryd.pinned (OpenSpec.upto fnNamesSpec)

end Rows
end Go.Proofs.YtgcadmofjblaeaaDoor
