/-
  NARROWER THAN 'FOR EVERY INPUT', by the rows' own cells (each row's printed sentence says how): FnSanitize: laid · FnSanitizeDrops: laid · FnSanitizeParts: laid · FnSanitizeTwice: laid · FnSanitizeWords: laid.
  DERIVED. THE GIVEN ROWS OF THIS SEAT. 5 by the template 'for every input the law returns true; each argument reads behind the call as it read before'; 0 by the template 'total and deterministic' (their statements: YtflmkgkkjhphkaaDoorTotals.lean).
  GIVEN WITH THE SEED: the statements are not yours to turn. If you find one false, say at which input.
  Laid BY PROGRAM, IN A SANDBOX (cutbox-rows.mjs): the forced cells as the released guide's own fill.sh prints them over the translation 2cea3926a9247585… (all of the seat's roots in one cut). By AI agents, Wed Nov 11 2026. No macro, syntax, notation, axiom, sorry.
-/
import Derived.Test.YtflmkgkkjhphkaaDoorChecked
import GoSem.PinnedTables
import GoSem.Claim
import GoSem.ClaimJoined
import GoSem.ClaimMapViews
import Derived.JoinedTies
import Derived.KernelRfl
namespace Go.Proofs.YtflmkgkkjhphkaaDoor
/- THE CELL 'sum', in the pinned program and in every row, IS THE sha256 OF THE DUMP (.gsa) THAT YtflmkgkkjhphkaaDoorProg.lean LOADS. Nothing in Lean hashes anything: it is a label: what it is worth is what the hold of that sum in a sandbox is worth. -/
noncomputable def Tryd.pinned : Pinned := { name := "ytflmkgkkjhphkaadoor", sum := "2cea3926a924758558036fab20b5441230b976c58a3ba369eba0d43a1d3a6a8f", checked := Tryd.checked }
namespace Rows
def none {H : Type} : Left H := { results := [], args := [] }

/- WHAT THE LISTED PACKAGE-LEVEL VARIABLES READ AS WHEN THE CALL BEGINS. Each datum BY PROGRAM (the guide's laid-datum.mjs) off the statement by which the dump's own 'gosem.cut.vars' lays the variable. In a bare row this is a premise. The card (YtflmkgkkjhphkaaDoorCards.lean) ties it to the program's text. -/
def laid_unicode_White_Space {H : Type} : DataW H := .ptr (.agg [.slice [.agg [.lit (.int .u16 9), .lit (.int .u16 13), .lit (.int .u16 1)], .agg [.lit (.int .u16 32), .lit (.int .u16 133), .lit (.int .u16 101)], .agg [.lit (.int .u16 160), .lit (.int .u16 5760), .lit (.int .u16 5600)], .agg [.lit (.int .u16 8192), .lit (.int .u16 8202), .lit (.int .u16 1)], .agg [.lit (.int .u16 8232), .lit (.int .u16 8233), .lit (.int .u16 1)], .agg [.lit (.int .u16 8239), .lit (.int .u16 8287), .lit (.int .u16 48)], .agg [.lit (.int .u16 12288), .lit (.int .u16 12288), .lit (.int .u16 1)]] [], .nil, .lit (.int .i64 2)])
def laid_unicode_properties {H : Type} : DataW H := .agg [.lit (.int .u8 1), .lit (.int .u8 1), .lit (.int .u8 1), .lit (.int .u8 1), .lit (.int .u8 1), .lit (.int .u8 1), .lit (.int .u8 1), .lit (.int .u8 1), .lit (.int .u8 1), .lit (.int .u8 1), .lit (.int .u8 1), .lit (.int .u8 1), .lit (.int .u8 1), .lit (.int .u8 1), .lit (.int .u8 1), .lit (.int .u8 1), .lit (.int .u8 1), .lit (.int .u8 1), .lit (.int .u8 1), .lit (.int .u8 1), .lit (.int .u8 1), .lit (.int .u8 1), .lit (.int .u8 1), .lit (.int .u8 1), .lit (.int .u8 1), .lit (.int .u8 1), .lit (.int .u8 1), .lit (.int .u8 1), .lit (.int .u8 1), .lit (.int .u8 1), .lit (.int .u8 1), .lit (.int .u8 1), .lit (.int .u8 144), .lit (.int .u8 130), .lit (.int .u8 130), .lit (.int .u8 130), .lit (.int .u8 136), .lit (.int .u8 130), .lit (.int .u8 130), .lit (.int .u8 130), .lit (.int .u8 130), .lit (.int .u8 130), .lit (.int .u8 130), .lit (.int .u8 136), .lit (.int .u8 130), .lit (.int .u8 130), .lit (.int .u8 130), .lit (.int .u8 130), .lit (.int .u8 132), .lit (.int .u8 132), .lit (.int .u8 132), .lit (.int .u8 132), .lit (.int .u8 132), .lit (.int .u8 132), .lit (.int .u8 132), .lit (.int .u8 132), .lit (.int .u8 132), .lit (.int .u8 132), .lit (.int .u8 130), .lit (.int .u8 130), .lit (.int .u8 136), .lit (.int .u8 136), .lit (.int .u8 136), .lit (.int .u8 130), .lit (.int .u8 130), .lit (.int .u8 160), .lit (.int .u8 160), .lit (.int .u8 160), .lit (.int .u8 160), .lit (.int .u8 160), .lit (.int .u8 160), .lit (.int .u8 160), .lit (.int .u8 160), .lit (.int .u8 160), .lit (.int .u8 160), .lit (.int .u8 160), .lit (.int .u8 160), .lit (.int .u8 160), .lit (.int .u8 160), .lit (.int .u8 160), .lit (.int .u8 160), .lit (.int .u8 160), .lit (.int .u8 160), .lit (.int .u8 160), .lit (.int .u8 160), .lit (.int .u8 160), .lit (.int .u8 160), .lit (.int .u8 160), .lit (.int .u8 160), .lit (.int .u8 160), .lit (.int .u8 160), .lit (.int .u8 130), .lit (.int .u8 130), .lit (.int .u8 130), .lit (.int .u8 136), .lit (.int .u8 130), .lit (.int .u8 136), .lit (.int .u8 192), .lit (.int .u8 192), .lit (.int .u8 192), .lit (.int .u8 192), .lit (.int .u8 192), .lit (.int .u8 192), .lit (.int .u8 192), .lit (.int .u8 192), .lit (.int .u8 192), .lit (.int .u8 192), .lit (.int .u8 192), .lit (.int .u8 192), .lit (.int .u8 192), .lit (.int .u8 192), .lit (.int .u8 192), .lit (.int .u8 192), .lit (.int .u8 192), .lit (.int .u8 192), .lit (.int .u8 192), .lit (.int .u8 192), .lit (.int .u8 192), .lit (.int .u8 192), .lit (.int .u8 192), .lit (.int .u8 192), .lit (.int .u8 192), .lit (.int .u8 192), .lit (.int .u8 130), .lit (.int .u8 136), .lit (.int .u8 130), .lit (.int .u8 136), .lit (.int .u8 1), .lit (.int .u8 1), .lit (.int .u8 1), .lit (.int .u8 1), .lit (.int .u8 1), .lit (.int .u8 1), .lit (.int .u8 1), .lit (.int .u8 1), .lit (.int .u8 1), .lit (.int .u8 1), .lit (.int .u8 1), .lit (.int .u8 1), .lit (.int .u8 1), .lit (.int .u8 1), .lit (.int .u8 1), .lit (.int .u8 1), .lit (.int .u8 1), .lit (.int .u8 1), .lit (.int .u8 1), .lit (.int .u8 1), .lit (.int .u8 1), .lit (.int .u8 1), .lit (.int .u8 1), .lit (.int .u8 1), .lit (.int .u8 1), .lit (.int .u8 1), .lit (.int .u8 1), .lit (.int .u8 1), .lit (.int .u8 1), .lit (.int .u8 1), .lit (.int .u8 1), .lit (.int .u8 1), .lit (.int .u8 1), .lit (.int .u8 16), .lit (.int .u8 130), .lit (.int .u8 136), .lit (.int .u8 136), .lit (.int .u8 136), .lit (.int .u8 136), .lit (.int .u8 136), .lit (.int .u8 130), .lit (.int .u8 136), .lit (.int .u8 136), .lit (.int .u8 224), .lit (.int .u8 130), .lit (.int .u8 136), .lit (.int .u8 0), .lit (.int .u8 136), .lit (.int .u8 136), .lit (.int .u8 136), .lit (.int .u8 136), .lit (.int .u8 132), .lit (.int .u8 132), .lit (.int .u8 136), .lit (.int .u8 192), .lit (.int .u8 130), .lit (.int .u8 130), .lit (.int .u8 136), .lit (.int .u8 132), .lit (.int .u8 224), .lit (.int .u8 130), .lit (.int .u8 132), .lit (.int .u8 132), .lit (.int .u8 132), .lit (.int .u8 130), .lit (.int .u8 160), .lit (.int .u8 160), .lit (.int .u8 160), .lit (.int .u8 160), .lit (.int .u8 160), .lit (.int .u8 160), .lit (.int .u8 160), .lit (.int .u8 160), .lit (.int .u8 160), .lit (.int .u8 160), .lit (.int .u8 160), .lit (.int .u8 160), .lit (.int .u8 160), .lit (.int .u8 160), .lit (.int .u8 160), .lit (.int .u8 160), .lit (.int .u8 160), .lit (.int .u8 160), .lit (.int .u8 160), .lit (.int .u8 160), .lit (.int .u8 160), .lit (.int .u8 160), .lit (.int .u8 160), .lit (.int .u8 136), .lit (.int .u8 160), .lit (.int .u8 160), .lit (.int .u8 160), .lit (.int .u8 160), .lit (.int .u8 160), .lit (.int .u8 160), .lit (.int .u8 160), .lit (.int .u8 192), .lit (.int .u8 192), .lit (.int .u8 192), .lit (.int .u8 192), .lit (.int .u8 192), .lit (.int .u8 192), .lit (.int .u8 192), .lit (.int .u8 192), .lit (.int .u8 192), .lit (.int .u8 192), .lit (.int .u8 192), .lit (.int .u8 192), .lit (.int .u8 192), .lit (.int .u8 192), .lit (.int .u8 192), .lit (.int .u8 192), .lit (.int .u8 192), .lit (.int .u8 192), .lit (.int .u8 192), .lit (.int .u8 192), .lit (.int .u8 192), .lit (.int .u8 192), .lit (.int .u8 192), .lit (.int .u8 192), .lit (.int .u8 136), .lit (.int .u8 192), .lit (.int .u8 192), .lit (.int .u8 192), .lit (.int .u8 192), .lit (.int .u8 192), .lit (.int .u8 192), .lit (.int .u8 192), .lit (.int .u8 192)]
/-- One of Go's own tables, pinned by name: the form's constant. -/
def laid_unicode_Digit : DataW Unit := Go.Pinned.digit
/-- One of Go's own tables, pinned by name: the form's constant. -/
def laid_unicode_Letter : DataW Unit := Go.Pinned.letter
/-- One of Go's own tables, pinned by name: the form's constant. -/
def laid_unicode_Mark : DataW Unit := Go.Pinned.mark

/-- 'laws.FnSanitize': WHATEVER THE INPUT: true; the input reads as it did. -/
def fnSanitizeSpec : ChangeSpec := { name := "fnSanitize", fn := fun _ => fun
  | [d] => { results := [.lit (.bool true)], args := [d] }
  | _ => none }
def fnSanitizeRow : OpenClaim := { program := "ytflmkgkkjhphkaadoor", sum := "2cea3926a924758558036fab20b5441230b976c58a3ba369eba0d43a1d3a6a8f", func := "pub-quirehand/laws.FnSanitize", spec := "fnSanitize", named := ["unicode.properties", "unicode.Letter", "unicode.Digit", "unicode.Mark", "unicode.White_Space"], apart := false, laid := [("unicode.White_Space", laid_unicode_White_Space), ("unicode.properties", laid_unicode_properties), ("unicode.Digit", laid_unicode_Digit), ("unicode.Letter", laid_unicode_Letter), ("unicode.Mark", laid_unicode_Mark)] }
def FnSanitizeSaid : Prop := fnSanitizeRow.holds Tryd.pinned (OpenSpec.ofChange fnSanitizeSpec)

/-- ITS FALSE NEIGHBOUR: 'it returns false'. Refute it at one input. -/
def fnSanitizeWrong : ChangeSpec := { name := "fnSanitize", fn := fun _ => fun
  | [d] => { results := [.lit (.bool false)], args := [d] }
  | _ => none }
def FnSanitizeWrongFalsely : Prop := fnSanitizeRow.holds Tryd.pinned (OpenSpec.ofChange fnSanitizeWrong)

/-- 'laws.FnSanitizeDrops': WHATEVER THE INPUT: true; the input reads as it did. -/
def fnSanitizeDropsSpec : ChangeSpec := { name := "fnSanitizeDrops", fn := fun _ => fun
  | [d1, d2] => { results := [.lit (.bool true)], args := [d1, d2] }
  | _ => none }
def fnSanitizeDropsRow : OpenClaim := { program := "ytflmkgkkjhphkaadoor", sum := "2cea3926a924758558036fab20b5441230b976c58a3ba369eba0d43a1d3a6a8f", func := "pub-quirehand/laws.FnSanitizeDrops", spec := "fnSanitizeDrops", named := ["unicode.properties", "unicode.Letter", "unicode.Digit", "unicode.Mark", "unicode.White_Space"], apart := false, laid := [("unicode.White_Space", laid_unicode_White_Space), ("unicode.properties", laid_unicode_properties), ("unicode.Digit", laid_unicode_Digit), ("unicode.Letter", laid_unicode_Letter), ("unicode.Mark", laid_unicode_Mark)] }
def FnSanitizeDropsSaid : Prop := fnSanitizeDropsRow.holds Tryd.pinned (OpenSpec.ofChange fnSanitizeDropsSpec)

/-- ITS FALSE NEIGHBOUR: 'it returns false'. Refute it at one input. -/
def fnSanitizeDropsWrong : ChangeSpec := { name := "fnSanitizeDrops", fn := fun _ => fun
  | [d1, d2] => { results := [.lit (.bool false)], args := [d1, d2] }
  | _ => none }
def FnSanitizeDropsWrongFalsely : Prop := fnSanitizeDropsRow.holds Tryd.pinned (OpenSpec.ofChange fnSanitizeDropsWrong)

/-- 'laws.FnSanitizeParts': WHATEVER THE INPUT: true; the input reads as it did. -/
def fnSanitizePartsSpec : ChangeSpec := { name := "fnSanitizeParts", fn := fun _ => fun
  | [d] => { results := [.lit (.bool true)], args := [d] }
  | _ => none }
def fnSanitizePartsRow : OpenClaim := { program := "ytflmkgkkjhphkaadoor", sum := "2cea3926a924758558036fab20b5441230b976c58a3ba369eba0d43a1d3a6a8f", func := "pub-quirehand/laws.FnSanitizeParts", spec := "fnSanitizeParts", named := ["unicode.properties", "unicode.Letter", "unicode.Digit", "unicode.Mark", "unicode.White_Space"], apart := false, laid := [("unicode.White_Space", laid_unicode_White_Space), ("unicode.properties", laid_unicode_properties), ("unicode.Digit", laid_unicode_Digit), ("unicode.Letter", laid_unicode_Letter), ("unicode.Mark", laid_unicode_Mark)] }
def FnSanitizePartsSaid : Prop := fnSanitizePartsRow.holds Tryd.pinned (OpenSpec.ofChange fnSanitizePartsSpec)

/-- ITS FALSE NEIGHBOUR: 'it returns false'. Refute it at one input. -/
def fnSanitizePartsWrong : ChangeSpec := { name := "fnSanitizeParts", fn := fun _ => fun
  | [d] => { results := [.lit (.bool false)], args := [d] }
  | _ => none }
def FnSanitizePartsWrongFalsely : Prop := fnSanitizePartsRow.holds Tryd.pinned (OpenSpec.ofChange fnSanitizePartsWrong)

/-- 'laws.FnSanitizeTwice': WHATEVER THE INPUT: true; the input reads as it did. -/
def fnSanitizeTwiceSpec : ChangeSpec := { name := "fnSanitizeTwice", fn := fun _ => fun
  | [d] => { results := [.lit (.bool true)], args := [d] }
  | _ => none }
def fnSanitizeTwiceRow : OpenClaim := { program := "ytflmkgkkjhphkaadoor", sum := "2cea3926a924758558036fab20b5441230b976c58a3ba369eba0d43a1d3a6a8f", func := "pub-quirehand/laws.FnSanitizeTwice", spec := "fnSanitizeTwice", named := ["unicode.properties", "unicode.Letter", "unicode.Digit", "unicode.Mark", "unicode.White_Space"], apart := false, laid := [("unicode.White_Space", laid_unicode_White_Space), ("unicode.properties", laid_unicode_properties), ("unicode.Digit", laid_unicode_Digit), ("unicode.Letter", laid_unicode_Letter), ("unicode.Mark", laid_unicode_Mark)] }
def FnSanitizeTwiceSaid : Prop := fnSanitizeTwiceRow.holds Tryd.pinned (OpenSpec.ofChange fnSanitizeTwiceSpec)

/-- ITS FALSE NEIGHBOUR: 'it returns false'. Refute it at one input. -/
def fnSanitizeTwiceWrong : ChangeSpec := { name := "fnSanitizeTwice", fn := fun _ => fun
  | [d] => { results := [.lit (.bool false)], args := [d] }
  | _ => none }
def FnSanitizeTwiceWrongFalsely : Prop := fnSanitizeTwiceRow.holds Tryd.pinned (OpenSpec.ofChange fnSanitizeTwiceWrong)

/-- 'laws.FnSanitizeWords': WHATEVER THE INPUT: true; the input reads as it did. -/
def fnSanitizeWordsSpec : ChangeSpec := { name := "fnSanitizeWords", fn := fun _ => fun
  | [d1, d2] => { results := [.lit (.bool true)], args := [d1, d2] }
  | _ => none }
def fnSanitizeWordsRow : OpenClaim := { program := "ytflmkgkkjhphkaadoor", sum := "2cea3926a924758558036fab20b5441230b976c58a3ba369eba0d43a1d3a6a8f", func := "pub-quirehand/laws.FnSanitizeWords", spec := "fnSanitizeWords", named := ["unicode.properties", "unicode.Letter", "unicode.Digit", "unicode.Mark", "unicode.White_Space"], apart := false, laid := [("unicode.White_Space", laid_unicode_White_Space), ("unicode.properties", laid_unicode_properties), ("unicode.Digit", laid_unicode_Digit), ("unicode.Letter", laid_unicode_Letter), ("unicode.Mark", laid_unicode_Mark)] }
def FnSanitizeWordsSaid : Prop := fnSanitizeWordsRow.holds Tryd.pinned (OpenSpec.ofChange fnSanitizeWordsSpec)

/-- ITS FALSE NEIGHBOUR: 'it returns false'. Refute it at one input. -/
def fnSanitizeWordsWrong : ChangeSpec := { name := "fnSanitizeWords", fn := fun _ => fun
  | [d1, d2] => { results := [.lit (.bool false)], args := [d1, d2] }
  | _ => none }
def FnSanitizeWordsWrongFalsely : Prop := fnSanitizeWordsRow.holds Tryd.pinned (OpenSpec.ofChange fnSanitizeWordsWrong)

/- THE SECOND FORM. 'bulk': how many values and letters a reading holds, each counted each time it is reached (what is shared counts as often as it is met; a slice's spare places count too). A statement '..UptoSaid' is the law's where the arguments, and the package variables that the reading takes, are together of bulk at most 1048576: NARROWER than '..Said'. Prove '..Said' where nothing that the law and all that it calls make is longer than what came in: it says more and counts as full. Else prove '..UptoSaid'. A law counts once. -/
mutual
def uptoBulk {H : Type} : DataW H → Nat
  | .lit (.string bytes) => bytes.length + 1
  | .lit _ => 1
  | .nil => 1
  | .ptr d => uptoBulk d + 1
  | .slice elems spare => uptoBulkAll elems + uptoBulkAll spare + 1
  | .agg parts => uptoBulkAll parts + 1
  | .iface _ d => uptoBulk d + 1
  | .map entries => uptoBulkEntries entries + 1
  | .held _ => 1
def uptoBulkAll {H : Type} : List (DataW H) → Nat
  | [] => 0
  | d :: r => uptoBulk d + uptoBulkAll r
def uptoBulkEntries {H : Type} : List (Lit × DataW H) → Nat
  | [] => 0
  | x :: r => uptoBulkEntry x + uptoBulkEntries r
def uptoBulkEntry {H : Type} : Lit × DataW H → Nat
  | (.string bytes, d) => bytes.length + uptoBulk d + 1
  | (_, d) => uptoBulk d + 1
 end
def uptoSmall : (H : Type) → List (DataW H) → Bool := fun _ ds => decide (uptoBulkAll ds ≤ 1048576)
def OpenSpec.upto (s : _root_.Go.ChangeSpec) : _root_.Go.OpenSpec := { _root_.Go.OpenSpec.ofChange s with cond := some uptoSmall }

/-- 'laws.FnSanitize', WHERE WHAT IT READS IS OF BULK AT MOST 1048576: true; the input reads as it did. -/
def fnSanitizeUptoRow : OpenClaim := { program := "ytflmkgkkjhphkaadoor", sum := "2cea3926a924758558036fab20b5441230b976c58a3ba369eba0d43a1d3a6a8f", func := "pub-quirehand/laws.FnSanitize", spec := "fnSanitize", named := ["unicode.properties", "unicode.Letter", "unicode.Digit", "unicode.Mark", "unicode.White_Space"], apart := false, laid := [("unicode.White_Space", laid_unicode_White_Space), ("unicode.properties", laid_unicode_properties), ("unicode.Digit", laid_unicode_Digit), ("unicode.Letter", laid_unicode_Letter), ("unicode.Mark", laid_unicode_Mark)], narrowed := true }
def FnSanitizeUptoSaid : Prop := fnSanitizeUptoRow.holds Tryd.pinned (OpenSpec.upto fnSanitizeSpec)

/-- 'laws.FnSanitizeDrops', WHERE WHAT IT READS IS OF BULK AT MOST 1048576: true; the input reads as it did. -/
def fnSanitizeDropsUptoRow : OpenClaim := { program := "ytflmkgkkjhphkaadoor", sum := "2cea3926a924758558036fab20b5441230b976c58a3ba369eba0d43a1d3a6a8f", func := "pub-quirehand/laws.FnSanitizeDrops", spec := "fnSanitizeDrops", named := ["unicode.properties", "unicode.Letter", "unicode.Digit", "unicode.Mark", "unicode.White_Space"], apart := false, laid := [("unicode.White_Space", laid_unicode_White_Space), ("unicode.properties", laid_unicode_properties), ("unicode.Digit", laid_unicode_Digit), ("unicode.Letter", laid_unicode_Letter), ("unicode.Mark", laid_unicode_Mark)], narrowed := true }
def FnSanitizeDropsUptoSaid : Prop := fnSanitizeDropsUptoRow.holds Tryd.pinned (OpenSpec.upto fnSanitizeDropsSpec)

/-- 'laws.FnSanitizeParts', WHERE WHAT IT READS IS OF BULK AT MOST 1048576: true; the input reads as it did. -/
def fnSanitizePartsUptoRow : OpenClaim := { program := "ytflmkgkkjhphkaadoor", sum := "2cea3926a924758558036fab20b5441230b976c58a3ba369eba0d43a1d3a6a8f", func := "pub-quirehand/laws.FnSanitizeParts", spec := "fnSanitizeParts", named := ["unicode.properties", "unicode.Letter", "unicode.Digit", "unicode.Mark", "unicode.White_Space"], apart := false, laid := [("unicode.White_Space", laid_unicode_White_Space), ("unicode.properties", laid_unicode_properties), ("unicode.Digit", laid_unicode_Digit), ("unicode.Letter", laid_unicode_Letter), ("unicode.Mark", laid_unicode_Mark)], narrowed := true }
def FnSanitizePartsUptoSaid : Prop := fnSanitizePartsUptoRow.holds Tryd.pinned (OpenSpec.upto fnSanitizePartsSpec)

/-- 'laws.FnSanitizeTwice', WHERE WHAT IT READS IS OF BULK AT MOST 1048576: true; the input reads as it did. -/
def fnSanitizeTwiceUptoRow : OpenClaim := { program := "ytflmkgkkjhphkaadoor", sum := "2cea3926a924758558036fab20b5441230b976c58a3ba369eba0d43a1d3a6a8f", func := "pub-quirehand/laws.FnSanitizeTwice", spec := "fnSanitizeTwice", named := ["unicode.properties", "unicode.Letter", "unicode.Digit", "unicode.Mark", "unicode.White_Space"], apart := false, laid := [("unicode.White_Space", laid_unicode_White_Space), ("unicode.properties", laid_unicode_properties), ("unicode.Digit", laid_unicode_Digit), ("unicode.Letter", laid_unicode_Letter), ("unicode.Mark", laid_unicode_Mark)], narrowed := true }
def FnSanitizeTwiceUptoSaid : Prop := fnSanitizeTwiceUptoRow.holds Tryd.pinned (OpenSpec.upto fnSanitizeTwiceSpec)

/-- 'laws.FnSanitizeWords', WHERE WHAT IT READS IS OF BULK AT MOST 1048576: true; the input reads as it did. -/
def fnSanitizeWordsUptoRow : OpenClaim := { program := "ytflmkgkkjhphkaadoor", sum := "2cea3926a924758558036fab20b5441230b976c58a3ba369eba0d43a1d3a6a8f", func := "pub-quirehand/laws.FnSanitizeWords", spec := "fnSanitizeWords", named := ["unicode.properties", "unicode.Letter", "unicode.Digit", "unicode.Mark", "unicode.White_Space"], apart := false, laid := [("unicode.White_Space", laid_unicode_White_Space), ("unicode.properties", laid_unicode_properties), ("unicode.Digit", laid_unicode_Digit), ("unicode.Letter", laid_unicode_Letter), ("unicode.Mark", laid_unicode_Mark)], narrowed := true }
def FnSanitizeWordsUptoSaid : Prop := fnSanitizeWordsUptoRow.holds Tryd.pinned (OpenSpec.upto fnSanitizeWordsSpec)

end Rows
end Go.Proofs.YtflmkgkkjhphkaaDoor
