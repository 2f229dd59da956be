/-
  NARROWER THAN 'FOR EVERY INPUT', by the rows' own cells (each row's printed sentence says how): FnEscaped: laid · FnFrontLines: laid · FnFrontNone: laid · FnIndented: laid · FnInline: laid · FnInlineOther: laid · FnJSON: laid · FnMixed: laid · FnName: laid · FnNamed: laid · FnNested: laid.
  DERIVED. THE GIVEN ROWS OF THIS SEAT. 11 by the template 'for every input the law returns true; each argument reads behind the call as it read before'; 0 by the template 'total and deterministic' (their statements: YtkehggbmpdacpabGreatDoorTotals.lean).
  GIVEN WITH THE SEED: the statements are not yours to turn. If you find one false, say at which input.
  Laid BY PROGRAM, IN A SANDBOX (cutbox-rows.mjs): the forced cells as the released guide's own fill.sh prints them over the translation ff2f039e3f4ad773… (all of the seat's roots in one cut). By AI agents, Wed Nov 11 2026. No macro, syntax, notation, axiom, sorry.
-/
import Derived.Test.YtkehggbmpdacpabGreatDoorChecked
import GoSem.PinnedTables
import GoSem.Claim
import GoSem.ClaimJoined
import GoSem.ClaimMapViews
import Derived.JoinedTies
import Derived.KernelRfl
namespace Go.Proofs.YtkehggbmpdacpabGreatDoor
/- THE CELL 'sum', in the pinned program and in every row, IS THE sha256 OF THE DUMP (.gsa) THAT YtkehggbmpdacpabGreatDoorProg.lean LOADS. Nothing in Lean hashes anything: it is a label: what it is worth is what the hold of that sum in a sandbox is worth. -/
noncomputable def Tryz.pinned : Pinned := { name := "ytkehggbmpdacpabgreatdoor", sum := "ff2f039e3f4ad7733be2bfcad42ddf323e57f06d7f7a81d2baf5c75b7f0168a8", checked := Tryz.checked }
namespace Rows
def none {H : Type} : Left H := { results := [], args := [] }

/- WHAT THE LISTED PACKAGE-LEVEL VARIABLES READ AS WHEN THE CALL BEGINS. Each datum BY PROGRAM (the guide's laid-datum.mjs) off the statement by which the dump's own 'gosem.cut.vars' lays the variable. In a bare row this is a premise. The card (YtkehggbmpdacpabGreatDoorCards.lean) ties it to the program's text. -/
def laid_unicode_utf8_acceptRanges {H : Type} : DataW H := .agg [.agg [.lit (.int .u8 128), .lit (.int .u8 191)], .agg [.lit (.int .u8 160), .lit (.int .u8 191)], .agg [.lit (.int .u8 128), .lit (.int .u8 159)], .agg [.lit (.int .u8 144), .lit (.int .u8 191)], .agg [.lit (.int .u8 128), .lit (.int .u8 143)], .agg [.lit (.int .u8 0), .lit (.int .u8 0)], .agg [.lit (.int .u8 0), .lit (.int .u8 0)], .agg [.lit (.int .u8 0), .lit (.int .u8 0)], .agg [.lit (.int .u8 0), .lit (.int .u8 0)], .agg [.lit (.int .u8 0), .lit (.int .u8 0)], .agg [.lit (.int .u8 0), .lit (.int .u8 0)], .agg [.lit (.int .u8 0), .lit (.int .u8 0)], .agg [.lit (.int .u8 0), .lit (.int .u8 0)], .agg [.lit (.int .u8 0), .lit (.int .u8 0)], .agg [.lit (.int .u8 0), .lit (.int .u8 0)], .agg [.lit (.int .u8 0), .lit (.int .u8 0)]]
def laid_unicode_White_Space {H : Type} : DataW H := .ptr (.agg [.slice [.agg [.lit (.int .u16 9), .lit (.int .u16 13), .lit (.int .u16 1)], .agg [.lit (.int .u16 32), .lit (.int .u16 133), .lit (.int .u16 101)], .agg [.lit (.int .u16 160), .lit (.int .u16 5760), .lit (.int .u16 5600)], .agg [.lit (.int .u16 8192), .lit (.int .u16 8202), .lit (.int .u16 1)], .agg [.lit (.int .u16 8232), .lit (.int .u16 8233), .lit (.int .u16 1)], .agg [.lit (.int .u16 8239), .lit (.int .u16 8287), .lit (.int .u16 48)], .agg [.lit (.int .u16 12288), .lit (.int .u16 12288), .lit (.int .u16 1)]] [], .nil, .lit (.int .i64 2)])
def laid_unicode_properties {H : Type} : DataW H := .agg [.lit (.int .u8 1), .lit (.int .u8 1), .lit (.int .u8 1), .lit (.int .u8 1), .lit (.int .u8 1), .lit (.int .u8 1), .lit (.int .u8 1), .lit (.int .u8 1), .lit (.int .u8 1), .lit (.int .u8 1), .lit (.int .u8 1), .lit (.int .u8 1), .lit (.int .u8 1), .lit (.int .u8 1), .lit (.int .u8 1), .lit (.int .u8 1), .lit (.int .u8 1), .lit (.int .u8 1), .lit (.int .u8 1), .lit (.int .u8 1), .lit (.int .u8 1), .lit (.int .u8 1), .lit (.int .u8 1), .lit (.int .u8 1), .lit (.int .u8 1), .lit (.int .u8 1), .lit (.int .u8 1), .lit (.int .u8 1), .lit (.int .u8 1), .lit (.int .u8 1), .lit (.int .u8 1), .lit (.int .u8 1), .lit (.int .u8 144), .lit (.int .u8 130), .lit (.int .u8 130), .lit (.int .u8 130), .lit (.int .u8 136), .lit (.int .u8 130), .lit (.int .u8 130), .lit (.int .u8 130), .lit (.int .u8 130), .lit (.int .u8 130), .lit (.int .u8 130), .lit (.int .u8 136), .lit (.int .u8 130), .lit (.int .u8 130), .lit (.int .u8 130), .lit (.int .u8 130), .lit (.int .u8 132), .lit (.int .u8 132), .lit (.int .u8 132), .lit (.int .u8 132), .lit (.int .u8 132), .lit (.int .u8 132), .lit (.int .u8 132), .lit (.int .u8 132), .lit (.int .u8 132), .lit (.int .u8 132), .lit (.int .u8 130), .lit (.int .u8 130), .lit (.int .u8 136), .lit (.int .u8 136), .lit (.int .u8 136), .lit (.int .u8 130), .lit (.int .u8 130), .lit (.int .u8 160), .lit (.int .u8 160), .lit (.int .u8 160), .lit (.int .u8 160), .lit (.int .u8 160), .lit (.int .u8 160), .lit (.int .u8 160), .lit (.int .u8 160), .lit (.int .u8 160), .lit (.int .u8 160), .lit (.int .u8 160), .lit (.int .u8 160), .lit (.int .u8 160), .lit (.int .u8 160), .lit (.int .u8 160), .lit (.int .u8 160), .lit (.int .u8 160), .lit (.int .u8 160), .lit (.int .u8 160), .lit (.int .u8 160), .lit (.int .u8 160), .lit (.int .u8 160), .lit (.int .u8 160), .lit (.int .u8 160), .lit (.int .u8 160), .lit (.int .u8 160), .lit (.int .u8 130), .lit (.int .u8 130), .lit (.int .u8 130), .lit (.int .u8 136), .lit (.int .u8 130), .lit (.int .u8 136), .lit (.int .u8 192), .lit (.int .u8 192), .lit (.int .u8 192), .lit (.int .u8 192), .lit (.int .u8 192), .lit (.int .u8 192), .lit (.int .u8 192), .lit (.int .u8 192), .lit (.int .u8 192), .lit (.int .u8 192), .lit (.int .u8 192), .lit (.int .u8 192), .lit (.int .u8 192), .lit (.int .u8 192), .lit (.int .u8 192), .lit (.int .u8 192), .lit (.int .u8 192), .lit (.int .u8 192), .lit (.int .u8 192), .lit (.int .u8 192), .lit (.int .u8 192), .lit (.int .u8 192), .lit (.int .u8 192), .lit (.int .u8 192), .lit (.int .u8 192), .lit (.int .u8 192), .lit (.int .u8 130), .lit (.int .u8 136), .lit (.int .u8 130), .lit (.int .u8 136), .lit (.int .u8 1), .lit (.int .u8 1), .lit (.int .u8 1), .lit (.int .u8 1), .lit (.int .u8 1), .lit (.int .u8 1), .lit (.int .u8 1), .lit (.int .u8 1), .lit (.int .u8 1), .lit (.int .u8 1), .lit (.int .u8 1), .lit (.int .u8 1), .lit (.int .u8 1), .lit (.int .u8 1), .lit (.int .u8 1), .lit (.int .u8 1), .lit (.int .u8 1), .lit (.int .u8 1), .lit (.int .u8 1), .lit (.int .u8 1), .lit (.int .u8 1), .lit (.int .u8 1), .lit (.int .u8 1), .lit (.int .u8 1), .lit (.int .u8 1), .lit (.int .u8 1), .lit (.int .u8 1), .lit (.int .u8 1), .lit (.int .u8 1), .lit (.int .u8 1), .lit (.int .u8 1), .lit (.int .u8 1), .lit (.int .u8 1), .lit (.int .u8 16), .lit (.int .u8 130), .lit (.int .u8 136), .lit (.int .u8 136), .lit (.int .u8 136), .lit (.int .u8 136), .lit (.int .u8 136), .lit (.int .u8 130), .lit (.int .u8 136), .lit (.int .u8 136), .lit (.int .u8 224), .lit (.int .u8 130), .lit (.int .u8 136), .lit (.int .u8 0), .lit (.int .u8 136), .lit (.int .u8 136), .lit (.int .u8 136), .lit (.int .u8 136), .lit (.int .u8 132), .lit (.int .u8 132), .lit (.int .u8 136), .lit (.int .u8 192), .lit (.int .u8 130), .lit (.int .u8 130), .lit (.int .u8 136), .lit (.int .u8 132), .lit (.int .u8 224), .lit (.int .u8 130), .lit (.int .u8 132), .lit (.int .u8 132), .lit (.int .u8 132), .lit (.int .u8 130), .lit (.int .u8 160), .lit (.int .u8 160), .lit (.int .u8 160), .lit (.int .u8 160), .lit (.int .u8 160), .lit (.int .u8 160), .lit (.int .u8 160), .lit (.int .u8 160), .lit (.int .u8 160), .lit (.int .u8 160), .lit (.int .u8 160), .lit (.int .u8 160), .lit (.int .u8 160), .lit (.int .u8 160), .lit (.int .u8 160), .lit (.int .u8 160), .lit (.int .u8 160), .lit (.int .u8 160), .lit (.int .u8 160), .lit (.int .u8 160), .lit (.int .u8 160), .lit (.int .u8 160), .lit (.int .u8 160), .lit (.int .u8 136), .lit (.int .u8 160), .lit (.int .u8 160), .lit (.int .u8 160), .lit (.int .u8 160), .lit (.int .u8 160), .lit (.int .u8 160), .lit (.int .u8 160), .lit (.int .u8 192), .lit (.int .u8 192), .lit (.int .u8 192), .lit (.int .u8 192), .lit (.int .u8 192), .lit (.int .u8 192), .lit (.int .u8 192), .lit (.int .u8 192), .lit (.int .u8 192), .lit (.int .u8 192), .lit (.int .u8 192), .lit (.int .u8 192), .lit (.int .u8 192), .lit (.int .u8 192), .lit (.int .u8 192), .lit (.int .u8 192), .lit (.int .u8 192), .lit (.int .u8 192), .lit (.int .u8 192), .lit (.int .u8 192), .lit (.int .u8 192), .lit (.int .u8 192), .lit (.int .u8 192), .lit (.int .u8 192), .lit (.int .u8 136), .lit (.int .u8 192), .lit (.int .u8 192), .lit (.int .u8 192), .lit (.int .u8 192), .lit (.int .u8 192), .lit (.int .u8 192), .lit (.int .u8 192), .lit (.int .u8 192)]
def laid_bytes_ErrTooLarge {H : Type} : DataW H := .iface "*errors.errorString" (.ptr (.agg [.lit (.string [98, 121, 116, 101, 115, 46, 66, 117, 102, 102, 101, 114, 58, 32, 116, 111, 111, 32, 108, 97, 114, 103, 101])]))
def laid_bytes_asciiSpace {H : Type} : DataW H := .agg [.lit (.int .u8 0), .lit (.int .u8 0), .lit (.int .u8 0), .lit (.int .u8 0), .lit (.int .u8 0), .lit (.int .u8 0), .lit (.int .u8 0), .lit (.int .u8 0), .lit (.int .u8 0), .lit (.int .u8 1), .lit (.int .u8 1), .lit (.int .u8 1), .lit (.int .u8 1), .lit (.int .u8 1), .lit (.int .u8 0), .lit (.int .u8 0), .lit (.int .u8 0), .lit (.int .u8 0), .lit (.int .u8 0), .lit (.int .u8 0), .lit (.int .u8 0), .lit (.int .u8 0), .lit (.int .u8 0), .lit (.int .u8 0), .lit (.int .u8 0), .lit (.int .u8 0), .lit (.int .u8 0), .lit (.int .u8 0), .lit (.int .u8 0), .lit (.int .u8 0), .lit (.int .u8 0), .lit (.int .u8 0), .lit (.int .u8 1), .lit (.int .u8 0), .lit (.int .u8 0), .lit (.int .u8 0), .lit (.int .u8 0), .lit (.int .u8 0), .lit (.int .u8 0), .lit (.int .u8 0), .lit (.int .u8 0), .lit (.int .u8 0), .lit (.int .u8 0), .lit (.int .u8 0), .lit (.int .u8 0), .lit (.int .u8 0), .lit (.int .u8 0), .lit (.int .u8 0), .lit (.int .u8 0), .lit (.int .u8 0), .lit (.int .u8 0), .lit (.int .u8 0), .lit (.int .u8 0), .lit (.int .u8 0), .lit (.int .u8 0), .lit (.int .u8 0), .lit (.int .u8 0), .lit (.int .u8 0), .lit (.int .u8 0), .lit (.int .u8 0), .lit (.int .u8 0), .lit (.int .u8 0), .lit (.int .u8 0), .lit (.int .u8 0), .lit (.int .u8 0), .lit (.int .u8 0), .lit (.int .u8 0), .lit (.int .u8 0), .lit (.int .u8 0), .lit (.int .u8 0), .lit (.int .u8 0), .lit (.int .u8 0), .lit (.int .u8 0), .lit (.int .u8 0), .lit (.int .u8 0), .lit (.int .u8 0), .lit (.int .u8 0), .lit (.int .u8 0), .lit (.int .u8 0), .lit (.int .u8 0), .lit (.int .u8 0), .lit (.int .u8 0), .lit (.int .u8 0), .lit (.int .u8 0), .lit (.int .u8 0), .lit (.int .u8 0), .lit (.int .u8 0), .lit (.int .u8 0), .lit (.int .u8 0), .lit (.int .u8 0), .lit (.int .u8 0), .lit (.int .u8 0), .lit (.int .u8 0), .lit (.int .u8 0), .lit (.int .u8 0), .lit (.int .u8 0), .lit (.int .u8 0), .lit (.int .u8 0), .lit (.int .u8 0), .lit (.int .u8 0), .lit (.int .u8 0), .lit (.int .u8 0), .lit (.int .u8 0), .lit (.int .u8 0), .lit (.int .u8 0), .lit (.int .u8 0), .lit (.int .u8 0), .lit (.int .u8 0), .lit (.int .u8 0), .lit (.int .u8 0), .lit (.int .u8 0), .lit (.int .u8 0), .lit (.int .u8 0), .lit (.int .u8 0), .lit (.int .u8 0), .lit (.int .u8 0), .lit (.int .u8 0), .lit (.int .u8 0), .lit (.int .u8 0), .lit (.int .u8 0), .lit (.int .u8 0), .lit (.int .u8 0), .lit (.int .u8 0), .lit (.int .u8 0), .lit (.int .u8 0), .lit (.int .u8 0), .lit (.int .u8 0), .lit (.int .u8 0), .lit (.int .u8 0), .lit (.int .u8 0), .lit (.int .u8 0), .lit (.int .u8 0), .lit (.int .u8 0), .lit (.int .u8 0), .lit (.int .u8 0), .lit (.int .u8 0), .lit (.int .u8 0), .lit (.int .u8 0), .lit (.int .u8 0), .lit (.int .u8 0), .lit (.int .u8 0), .lit (.int .u8 0), .lit (.int .u8 0), .lit (.int .u8 0), .lit (.int .u8 0), .lit (.int .u8 0), .lit (.int .u8 0), .lit (.int .u8 0), .lit (.int .u8 0), .lit (.int .u8 0), .lit (.int .u8 0), .lit (.int .u8 0), .lit (.int .u8 0), .lit (.int .u8 0), .lit (.int .u8 0), .lit (.int .u8 0), .lit (.int .u8 0), .lit (.int .u8 0), .lit (.int .u8 0), .lit (.int .u8 0), .lit (.int .u8 0), .lit (.int .u8 0), .lit (.int .u8 0), .lit (.int .u8 0), .lit (.int .u8 0), .lit (.int .u8 0), .lit (.int .u8 0), .lit (.int .u8 0), .lit (.int .u8 0), .lit (.int .u8 0), .lit (.int .u8 0), .lit (.int .u8 0), .lit (.int .u8 0), .lit (.int .u8 0), .lit (.int .u8 0), .lit (.int .u8 0), .lit (.int .u8 0), .lit (.int .u8 0), .lit (.int .u8 0), .lit (.int .u8 0), .lit (.int .u8 0), .lit (.int .u8 0), .lit (.int .u8 0), .lit (.int .u8 0), .lit (.int .u8 0), .lit (.int .u8 0), .lit (.int .u8 0), .lit (.int .u8 0), .lit (.int .u8 0), .lit (.int .u8 0), .lit (.int .u8 0), .lit (.int .u8 0), .lit (.int .u8 0), .lit (.int .u8 0), .lit (.int .u8 0), .lit (.int .u8 0), .lit (.int .u8 0), .lit (.int .u8 0), .lit (.int .u8 0), .lit (.int .u8 0), .lit (.int .u8 0), .lit (.int .u8 0), .lit (.int .u8 0), .lit (.int .u8 0), .lit (.int .u8 0), .lit (.int .u8 0), .lit (.int .u8 0), .lit (.int .u8 0), .lit (.int .u8 0), .lit (.int .u8 0), .lit (.int .u8 0), .lit (.int .u8 0), .lit (.int .u8 0), .lit (.int .u8 0), .lit (.int .u8 0), .lit (.int .u8 0), .lit (.int .u8 0), .lit (.int .u8 0), .lit (.int .u8 0), .lit (.int .u8 0), .lit (.int .u8 0), .lit (.int .u8 0), .lit (.int .u8 0), .lit (.int .u8 0), .lit (.int .u8 0), .lit (.int .u8 0), .lit (.int .u8 0), .lit (.int .u8 0), .lit (.int .u8 0), .lit (.int .u8 0), .lit (.int .u8 0), .lit (.int .u8 0), .lit (.int .u8 0), .lit (.int .u8 0), .lit (.int .u8 0), .lit (.int .u8 0), .lit (.int .u8 0), .lit (.int .u8 0), .lit (.int .u8 0), .lit (.int .u8 0), .lit (.int .u8 0), .lit (.int .u8 0), .lit (.int .u8 0), .lit (.int .u8 0), .lit (.int .u8 0), .lit (.int .u8 0), .lit (.int .u8 0), .lit (.int .u8 0), .lit (.int .u8 0), .lit (.int .u8 0), .lit (.int .u8 0), .lit (.int .u8 0), .lit (.int .u8 0), .lit (.int .u8 0), .lit (.int .u8 0), .lit (.int .u8 0)]
/-- One of Go's own tables, pinned by name: the form's constant. -/
def laid_unicode_Digit : DataW Unit := Go.Pinned.digit
/-- One of Go's own tables, pinned by name: the form's constant. -/
def laid_unicode_Letter : DataW Unit := Go.Pinned.letter
/-- One of Go's own tables, pinned by name: the form's constant. -/
def laid_unicode_utf8_first : DataW Unit := Go.Pinned.utf8First

/-- 'laws.FnEscaped': WHATEVER THE INPUT: true; the input reads as it did. -/
def fnEscapedSpec : ChangeSpec := { name := "fnEscaped", fn := fun _ => fun
  | [d1, d2, d3] => { results := [.lit (.bool true)], args := [d1, d2, d3] }
  | _ => none }
def fnEscapedRow : OpenClaim := { program := "ytkehggbmpdacpabgreatdoor", sum := "ff2f039e3f4ad7733be2bfcad42ddf323e57f06d7f7a81d2baf5c75b7f0168a8", func := "pub-quirehand/laws.FnEscaped", spec := "fnEscaped", unfollowed := true, recurses := true, named := ["unicode/utf8.first", "unicode/utf8.acceptRanges", "bytes.asciiSpace", "unicode.White_Space", "unicode.properties", "unicode.Letter", "unicode.Digit", "bytes.ErrTooLarge"], apart := false, laid := [("unicode/utf8.acceptRanges", laid_unicode_utf8_acceptRanges), ("unicode.White_Space", laid_unicode_White_Space), ("unicode.properties", laid_unicode_properties), ("bytes.ErrTooLarge", laid_bytes_ErrTooLarge), ("bytes.asciiSpace", laid_bytes_asciiSpace), ("unicode.Digit", laid_unicode_Digit), ("unicode.Letter", laid_unicode_Letter), ("unicode/utf8.first", laid_unicode_utf8_first)] }
def FnEscapedSaid : Prop := fnEscapedRow.holds Tryz.pinned (OpenSpec.ofChange fnEscapedSpec)

/-- ITS FALSE NEIGHBOUR: 'it returns false'. Refute it at one input. -/
def fnEscapedWrong : ChangeSpec := { name := "fnEscaped", fn := fun _ => fun
  | [d1, d2, d3] => { results := [.lit (.bool false)], args := [d1, d2, d3] }
  | _ => none }
def FnEscapedWrongFalsely : Prop := fnEscapedRow.holds Tryz.pinned (OpenSpec.ofChange fnEscapedWrong)

/-- 'laws.FnFrontLines': WHATEVER THE INPUT: true; the input reads as it did. -/
def fnFrontLinesSpec : ChangeSpec := { name := "fnFrontLines", fn := fun _ => fun
  | [d1, d2, d3, d4] => { results := [.lit (.bool true)], args := [d1, d2, d3, d4] }
  | _ => none }
def fnFrontLinesRow : OpenClaim := { program := "ytkehggbmpdacpabgreatdoor", sum := "ff2f039e3f4ad7733be2bfcad42ddf323e57f06d7f7a81d2baf5c75b7f0168a8", func := "pub-quirehand/laws.FnFrontLines", spec := "fnFrontLines", unfollowed := true, recurses := true, named := ["unicode/utf8.first", "unicode/utf8.acceptRanges", "bytes.asciiSpace", "unicode.White_Space", "unicode.properties", "unicode.Letter", "unicode.Digit", "bytes.ErrTooLarge"], apart := false, laid := [("unicode/utf8.acceptRanges", laid_unicode_utf8_acceptRanges), ("unicode.White_Space", laid_unicode_White_Space), ("unicode.properties", laid_unicode_properties), ("bytes.ErrTooLarge", laid_bytes_ErrTooLarge), ("bytes.asciiSpace", laid_bytes_asciiSpace), ("unicode.Digit", laid_unicode_Digit), ("unicode.Letter", laid_unicode_Letter), ("unicode/utf8.first", laid_unicode_utf8_first)] }
def FnFrontLinesSaid : Prop := fnFrontLinesRow.holds Tryz.pinned (OpenSpec.ofChange fnFrontLinesSpec)

/-- ITS FALSE NEIGHBOUR: 'it returns false'. Refute it at one input. -/
def fnFrontLinesWrong : ChangeSpec := { name := "fnFrontLines", fn := fun _ => fun
  | [d1, d2, d3, d4] => { results := [.lit (.bool false)], args := [d1, d2, d3, d4] }
  | _ => none }
def FnFrontLinesWrongFalsely : Prop := fnFrontLinesRow.holds Tryz.pinned (OpenSpec.ofChange fnFrontLinesWrong)

/-- 'laws.FnFrontNone': WHATEVER THE INPUT: true; the input reads as it did. -/
def fnFrontNoneSpec : ChangeSpec := { name := "fnFrontNone", fn := fun _ => fun
  | [d1, d2] => { results := [.lit (.bool true)], args := [d1, d2] }
  | _ => none }
def fnFrontNoneRow : OpenClaim := { program := "ytkehggbmpdacpabgreatdoor", sum := "ff2f039e3f4ad7733be2bfcad42ddf323e57f06d7f7a81d2baf5c75b7f0168a8", func := "pub-quirehand/laws.FnFrontNone", spec := "fnFrontNone", unfollowed := true, recurses := true, named := ["unicode/utf8.first", "unicode/utf8.acceptRanges", "bytes.asciiSpace", "unicode.White_Space", "unicode.properties", "unicode.Letter", "unicode.Digit", "bytes.ErrTooLarge"], apart := false, laid := [("unicode/utf8.acceptRanges", laid_unicode_utf8_acceptRanges), ("unicode.White_Space", laid_unicode_White_Space), ("unicode.properties", laid_unicode_properties), ("bytes.ErrTooLarge", laid_bytes_ErrTooLarge), ("bytes.asciiSpace", laid_bytes_asciiSpace), ("unicode.Digit", laid_unicode_Digit), ("unicode.Letter", laid_unicode_Letter), ("unicode/utf8.first", laid_unicode_utf8_first)] }
def FnFrontNoneSaid : Prop := fnFrontNoneRow.holds Tryz.pinned (OpenSpec.ofChange fnFrontNoneSpec)

/-- ITS FALSE NEIGHBOUR: 'it returns false'. Refute it at one input. -/
def fnFrontNoneWrong : ChangeSpec := { name := "fnFrontNone", fn := fun _ => fun
  | [d1, d2] => { results := [.lit (.bool false)], args := [d1, d2] }
  | _ => none }
def FnFrontNoneWrongFalsely : Prop := fnFrontNoneRow.holds Tryz.pinned (OpenSpec.ofChange fnFrontNoneWrong)

/-- 'laws.FnIndented': WHATEVER THE INPUT: true; the input reads as it did. -/
def fnIndentedSpec : ChangeSpec := { name := "fnIndented", fn := fun _ => fun
  | [d1, d2, d3, d4] => { results := [.lit (.bool true)], args := [d1, d2, d3, d4] }
  | _ => none }
def fnIndentedRow : OpenClaim := { program := "ytkehggbmpdacpabgreatdoor", sum := "ff2f039e3f4ad7733be2bfcad42ddf323e57f06d7f7a81d2baf5c75b7f0168a8", func := "pub-quirehand/laws.FnIndented", spec := "fnIndented", unfollowed := true, recurses := true, named := ["unicode/utf8.first", "unicode/utf8.acceptRanges", "bytes.asciiSpace", "unicode.White_Space", "unicode.properties", "unicode.Letter", "unicode.Digit", "bytes.ErrTooLarge"], apart := false, laid := [("unicode/utf8.acceptRanges", laid_unicode_utf8_acceptRanges), ("unicode.White_Space", laid_unicode_White_Space), ("unicode.properties", laid_unicode_properties), ("bytes.ErrTooLarge", laid_bytes_ErrTooLarge), ("bytes.asciiSpace", laid_bytes_asciiSpace), ("unicode.Digit", laid_unicode_Digit), ("unicode.Letter", laid_unicode_Letter), ("unicode/utf8.first", laid_unicode_utf8_first)] }
def FnIndentedSaid : Prop := fnIndentedRow.holds Tryz.pinned (OpenSpec.ofChange fnIndentedSpec)

/-- ITS FALSE NEIGHBOUR: 'it returns false'. Refute it at one input. -/
def fnIndentedWrong : ChangeSpec := { name := "fnIndented", fn := fun _ => fun
  | [d1, d2, d3, d4] => { results := [.lit (.bool false)], args := [d1, d2, d3, d4] }
  | _ => none }
def FnIndentedWrongFalsely : Prop := fnIndentedRow.holds Tryz.pinned (OpenSpec.ofChange fnIndentedWrong)

/-- 'laws.FnInline': WHATEVER THE INPUT: true; the input reads as it did. -/
def fnInlineSpec : ChangeSpec := { name := "fnInline", fn := fun _ => fun
  | [d1, d2, d3] => { results := [.lit (.bool true)], args := [d1, d2, d3] }
  | _ => none }
def fnInlineRow : OpenClaim := { program := "ytkehggbmpdacpabgreatdoor", sum := "ff2f039e3f4ad7733be2bfcad42ddf323e57f06d7f7a81d2baf5c75b7f0168a8", func := "pub-quirehand/laws.FnInline", spec := "fnInline", unfollowed := true, recurses := true, named := ["unicode/utf8.first", "unicode/utf8.acceptRanges", "bytes.asciiSpace", "unicode.White_Space", "unicode.properties", "unicode.Letter", "unicode.Digit", "bytes.ErrTooLarge"], apart := false, laid := [("unicode/utf8.acceptRanges", laid_unicode_utf8_acceptRanges), ("unicode.White_Space", laid_unicode_White_Space), ("unicode.properties", laid_unicode_properties), ("bytes.ErrTooLarge", laid_bytes_ErrTooLarge), ("bytes.asciiSpace", laid_bytes_asciiSpace), ("unicode.Digit", laid_unicode_Digit), ("unicode.Letter", laid_unicode_Letter), ("unicode/utf8.first", laid_unicode_utf8_first)] }
def FnInlineSaid : Prop := fnInlineRow.holds Tryz.pinned (OpenSpec.ofChange fnInlineSpec)

/-- ITS FALSE NEIGHBOUR: 'it returns false'. Refute it at one input. -/
def fnInlineWrong : ChangeSpec := { name := "fnInline", fn := fun _ => fun
  | [d1, d2, d3] => { results := [.lit (.bool false)], args := [d1, d2, d3] }
  | _ => none }
def FnInlineWrongFalsely : Prop := fnInlineRow.holds Tryz.pinned (OpenSpec.ofChange fnInlineWrong)

/-- 'laws.FnInlineOther': WHATEVER THE INPUT: true; the input reads as it did. -/
def fnInlineOtherSpec : ChangeSpec := { name := "fnInlineOther", fn := fun _ => fun
  | [d1, d2, d3, d4] => { results := [.lit (.bool true)], args := [d1, d2, d3, d4] }
  | _ => none }
def fnInlineOtherRow : OpenClaim := { program := "ytkehggbmpdacpabgreatdoor", sum := "ff2f039e3f4ad7733be2bfcad42ddf323e57f06d7f7a81d2baf5c75b7f0168a8", func := "pub-quirehand/laws.FnInlineOther", spec := "fnInlineOther", unfollowed := true, recurses := true, named := ["unicode/utf8.first", "unicode/utf8.acceptRanges", "bytes.asciiSpace", "unicode.White_Space", "unicode.properties", "unicode.Letter", "unicode.Digit", "bytes.ErrTooLarge"], apart := false, laid := [("unicode/utf8.acceptRanges", laid_unicode_utf8_acceptRanges), ("unicode.White_Space", laid_unicode_White_Space), ("unicode.properties", laid_unicode_properties), ("bytes.ErrTooLarge", laid_bytes_ErrTooLarge), ("bytes.asciiSpace", laid_bytes_asciiSpace), ("unicode.Digit", laid_unicode_Digit), ("unicode.Letter", laid_unicode_Letter), ("unicode/utf8.first", laid_unicode_utf8_first)] }
def FnInlineOtherSaid : Prop := fnInlineOtherRow.holds Tryz.pinned (OpenSpec.ofChange fnInlineOtherSpec)

/-- ITS FALSE NEIGHBOUR: 'it returns false'. Refute it at one input. -/
def fnInlineOtherWrong : ChangeSpec := { name := "fnInlineOther", fn := fun _ => fun
  | [d1, d2, d3, d4] => { results := [.lit (.bool false)], args := [d1, d2, d3, d4] }
  | _ => none }
def FnInlineOtherWrongFalsely : Prop := fnInlineOtherRow.holds Tryz.pinned (OpenSpec.ofChange fnInlineOtherWrong)

/-- 'laws.FnJSON': WHATEVER THE INPUT: true; the input reads as it did. -/
def fnJSONSpec : ChangeSpec := { name := "fnJSON", fn := fun _ => fun
  | [d1, d2, d3] => { results := [.lit (.bool true)], args := [d1, d2, d3] }
  | _ => none }
def fnJSONRow : OpenClaim := { program := "ytkehggbmpdacpabgreatdoor", sum := "ff2f039e3f4ad7733be2bfcad42ddf323e57f06d7f7a81d2baf5c75b7f0168a8", func := "pub-quirehand/laws.FnJSON", spec := "fnJSON", unfollowed := true, recurses := true, named := ["unicode/utf8.first", "unicode/utf8.acceptRanges", "bytes.asciiSpace", "unicode.White_Space", "unicode.properties", "unicode.Letter", "unicode.Digit", "bytes.ErrTooLarge"], apart := false, laid := [("unicode/utf8.acceptRanges", laid_unicode_utf8_acceptRanges), ("unicode.White_Space", laid_unicode_White_Space), ("unicode.properties", laid_unicode_properties), ("bytes.ErrTooLarge", laid_bytes_ErrTooLarge), ("bytes.asciiSpace", laid_bytes_asciiSpace), ("unicode.Digit", laid_unicode_Digit), ("unicode.Letter", laid_unicode_Letter), ("unicode/utf8.first", laid_unicode_utf8_first)] }
def FnJSONSaid : Prop := fnJSONRow.holds Tryz.pinned (OpenSpec.ofChange fnJSONSpec)

/-- ITS FALSE NEIGHBOUR: 'it returns false'. Refute it at one input. -/
def fnJSONWrong : ChangeSpec := { name := "fnJSON", fn := fun _ => fun
  | [d1, d2, d3] => { results := [.lit (.bool false)], args := [d1, d2, d3] }
  | _ => none }
def FnJSONWrongFalsely : Prop := fnJSONRow.holds Tryz.pinned (OpenSpec.ofChange fnJSONWrong)

/-- 'laws.FnMixed': WHATEVER THE INPUT: true; the input reads as it did. -/
def fnMixedSpec : ChangeSpec := { name := "fnMixed", fn := fun _ => fun
  | [d1, d2, d3, d4, d5] => { results := [.lit (.bool true)], args := [d1, d2, d3, d4, d5] }
  | _ => none }
def fnMixedRow : OpenClaim := { program := "ytkehggbmpdacpabgreatdoor", sum := "ff2f039e3f4ad7733be2bfcad42ddf323e57f06d7f7a81d2baf5c75b7f0168a8", func := "pub-quirehand/laws.FnMixed", spec := "fnMixed", unfollowed := true, recurses := true, named := ["unicode/utf8.first", "unicode/utf8.acceptRanges", "bytes.asciiSpace", "unicode.White_Space", "unicode.properties", "unicode.Letter", "unicode.Digit", "bytes.ErrTooLarge"], apart := false, laid := [("unicode/utf8.acceptRanges", laid_unicode_utf8_acceptRanges), ("unicode.White_Space", laid_unicode_White_Space), ("unicode.properties", laid_unicode_properties), ("bytes.ErrTooLarge", laid_bytes_ErrTooLarge), ("bytes.asciiSpace", laid_bytes_asciiSpace), ("unicode.Digit", laid_unicode_Digit), ("unicode.Letter", laid_unicode_Letter), ("unicode/utf8.first", laid_unicode_utf8_first)] }
def FnMixedSaid : Prop := fnMixedRow.holds Tryz.pinned (OpenSpec.ofChange fnMixedSpec)

/-- ITS FALSE NEIGHBOUR: 'it returns false'. Refute it at one input. -/
def fnMixedWrong : ChangeSpec := { name := "fnMixed", fn := fun _ => fun
  | [d1, d2, d3, d4, d5] => { results := [.lit (.bool false)], args := [d1, d2, d3, d4, d5] }
  | _ => none }
def FnMixedWrongFalsely : Prop := fnMixedRow.holds Tryz.pinned (OpenSpec.ofChange fnMixedWrong)

/-- 'laws.FnName': WHATEVER THE INPUT: true; the input reads as it did. -/
def fnNameSpec : ChangeSpec := { name := "fnName", fn := fun _ => fun
  | [d1, d2, d3] => { results := [.lit (.bool true)], args := [d1, d2, d3] }
  | _ => none }
def fnNameRow : OpenClaim := { program := "ytkehggbmpdacpabgreatdoor", sum := "ff2f039e3f4ad7733be2bfcad42ddf323e57f06d7f7a81d2baf5c75b7f0168a8", func := "pub-quirehand/laws.FnName", spec := "fnName", unfollowed := true, recurses := true, named := ["unicode/utf8.first", "unicode/utf8.acceptRanges", "bytes.asciiSpace", "unicode.White_Space", "unicode.properties", "unicode.Letter", "unicode.Digit", "bytes.ErrTooLarge"], apart := false, laid := [("unicode/utf8.acceptRanges", laid_unicode_utf8_acceptRanges), ("unicode.White_Space", laid_unicode_White_Space), ("unicode.properties", laid_unicode_properties), ("bytes.ErrTooLarge", laid_bytes_ErrTooLarge), ("bytes.asciiSpace", laid_bytes_asciiSpace), ("unicode.Digit", laid_unicode_Digit), ("unicode.Letter", laid_unicode_Letter), ("unicode/utf8.first", laid_unicode_utf8_first)] }
def FnNameSaid : Prop := fnNameRow.holds Tryz.pinned (OpenSpec.ofChange fnNameSpec)

/-- ITS FALSE NEIGHBOUR: 'it returns false'. Refute it at one input. -/
def fnNameWrong : ChangeSpec := { name := "fnName", fn := fun _ => fun
  | [d1, d2, d3] => { results := [.lit (.bool false)], args := [d1, d2, d3] }
  | _ => none }
def FnNameWrongFalsely : Prop := fnNameRow.holds Tryz.pinned (OpenSpec.ofChange fnNameWrong)

/-- 'laws.FnNamed': WHATEVER THE INPUT: true; the input reads as it did. -/
def fnNamedSpec : ChangeSpec := { name := "fnNamed", fn := fun _ => fun
  | [d1, d2, d3, d4, d5] => { results := [.lit (.bool true)], args := [d1, d2, d3, d4, d5] }
  | _ => none }
def fnNamedRow : OpenClaim := { program := "ytkehggbmpdacpabgreatdoor", sum := "ff2f039e3f4ad7733be2bfcad42ddf323e57f06d7f7a81d2baf5c75b7f0168a8", func := "pub-quirehand/laws.FnNamed", spec := "fnNamed", unfollowed := true, recurses := true, named := ["unicode/utf8.first", "unicode/utf8.acceptRanges", "bytes.asciiSpace", "unicode.White_Space", "unicode.properties", "unicode.Letter", "unicode.Digit", "bytes.ErrTooLarge"], apart := false, laid := [("unicode/utf8.acceptRanges", laid_unicode_utf8_acceptRanges), ("unicode.White_Space", laid_unicode_White_Space), ("unicode.properties", laid_unicode_properties), ("bytes.ErrTooLarge", laid_bytes_ErrTooLarge), ("bytes.asciiSpace", laid_bytes_asciiSpace), ("unicode.Digit", laid_unicode_Digit), ("unicode.Letter", laid_unicode_Letter), ("unicode/utf8.first", laid_unicode_utf8_first)] }
def FnNamedSaid : Prop := fnNamedRow.holds Tryz.pinned (OpenSpec.ofChange fnNamedSpec)

/-- ITS FALSE NEIGHBOUR: 'it returns false'. Refute it at one input. -/
def fnNamedWrong : ChangeSpec := { name := "fnNamed", fn := fun _ => fun
  | [d1, d2, d3, d4, d5] => { results := [.lit (.bool false)], args := [d1, d2, d3, d4, d5] }
  | _ => none }
def FnNamedWrongFalsely : Prop := fnNamedRow.holds Tryz.pinned (OpenSpec.ofChange fnNamedWrong)

/-- 'laws.FnNested': WHATEVER THE INPUT: true; the input reads as it did. -/
def fnNestedSpec : ChangeSpec := { name := "fnNested", fn := fun _ => fun
  | [d1, d2, d3] => { results := [.lit (.bool true)], args := [d1, d2, d3] }
  | _ => none }
def fnNestedRow : OpenClaim := { program := "ytkehggbmpdacpabgreatdoor", sum := "ff2f039e3f4ad7733be2bfcad42ddf323e57f06d7f7a81d2baf5c75b7f0168a8", func := "pub-quirehand/laws.FnNested", spec := "fnNested", unfollowed := true, recurses := true, named := ["unicode/utf8.first", "unicode/utf8.acceptRanges", "bytes.asciiSpace", "unicode.White_Space", "unicode.properties", "unicode.Letter", "unicode.Digit", "bytes.ErrTooLarge"], apart := false, laid := [("unicode/utf8.acceptRanges", laid_unicode_utf8_acceptRanges), ("unicode.White_Space", laid_unicode_White_Space), ("unicode.properties", laid_unicode_properties), ("bytes.ErrTooLarge", laid_bytes_ErrTooLarge), ("bytes.asciiSpace", laid_bytes_asciiSpace), ("unicode.Digit", laid_unicode_Digit), ("unicode.Letter", laid_unicode_Letter), ("unicode/utf8.first", laid_unicode_utf8_first)] }
def FnNestedSaid : Prop := fnNestedRow.holds Tryz.pinned (OpenSpec.ofChange fnNestedSpec)

/-- ITS FALSE NEIGHBOUR: 'it returns false'. Refute it at one input. -/
def fnNestedWrong : ChangeSpec := { name := "fnNested", fn := fun _ => fun
  | [d1, d2, d3] => { results := [.lit (.bool false)], args := [d1, d2, d3] }
  | _ => none }
def FnNestedWrongFalsely : Prop := fnNestedRow.holds Tryz.pinned (OpenSpec.ofChange fnNestedWrong)

/- THE SECOND FORM. 'bulk': how many values and letters a reading holds, each counted each time it is reached (what is shared counts as often as it is met; a slice's spare places count too). A statement '..UptoSaid' is the law's where the arguments, and the package variables that the reading takes, are together of bulk at most 1048576: NARROWER than '..Said'. Prove '..Said' where nothing that the law and all that it calls make is longer than what came in: it says more and counts as full. Else prove '..UptoSaid'. A law counts once. -/
mutual
def uptoBulk {H : Type} : DataW H → Nat
  | .lit (.string bytes) => bytes.length + 1
  | .lit _ => 1
  | .nil => 1
  | .ptr d => uptoBulk d + 1
  | .slice elems spare => uptoBulkAll elems + uptoBulkAll spare + 1
  | .agg parts => uptoBulkAll parts + 1
  | .iface _ d => uptoBulk d + 1
  | .map entries => uptoBulkEntries entries + 1
  | .held _ => 1
def uptoBulkAll {H : Type} : List (DataW H) → Nat
  | [] => 0
  | d :: r => uptoBulk d + uptoBulkAll r
def uptoBulkEntries {H : Type} : List (Lit × DataW H) → Nat
  | [] => 0
  | x :: r => uptoBulkEntry x + uptoBulkEntries r
def uptoBulkEntry {H : Type} : Lit × DataW H → Nat
  | (.string bytes, d) => bytes.length + uptoBulk d + 1
  | (_, d) => uptoBulk d + 1
 end
def uptoSmall : (H : Type) → List (DataW H) → Bool := fun _ ds => decide (uptoBulkAll ds ≤ 1048576)
def OpenSpec.upto (s : _root_.Go.ChangeSpec) : _root_.Go.OpenSpec := { _root_.Go.OpenSpec.ofChange s with cond := some uptoSmall }

/-- 'laws.FnEscaped', WHERE WHAT IT READS IS OF BULK AT MOST 1048576: true; the input reads as it did. -/
def fnEscapedUptoRow : OpenClaim := { program := "ytkehggbmpdacpabgreatdoor", sum := "ff2f039e3f4ad7733be2bfcad42ddf323e57f06d7f7a81d2baf5c75b7f0168a8", func := "pub-quirehand/laws.FnEscaped", spec := "fnEscaped", unfollowed := true, recurses := true, named := ["unicode/utf8.first", "unicode/utf8.acceptRanges", "bytes.asciiSpace", "unicode.White_Space", "unicode.properties", "unicode.Letter", "unicode.Digit", "bytes.ErrTooLarge"], apart := false, laid := [("unicode/utf8.acceptRanges", laid_unicode_utf8_acceptRanges), ("unicode.White_Space", laid_unicode_White_Space), ("unicode.properties", laid_unicode_properties), ("bytes.ErrTooLarge", laid_bytes_ErrTooLarge), ("bytes.asciiSpace", laid_bytes_asciiSpace), ("unicode.Digit", laid_unicode_Digit), ("unicode.Letter", laid_unicode_Letter), ("unicode/utf8.first", laid_unicode_utf8_first)], narrowed := true }
def FnEscapedUptoSaid : Prop := fnEscapedUptoRow.holds Tryz.pinned (OpenSpec.upto fnEscapedSpec)

/-- 'laws.FnFrontLines', WHERE WHAT IT READS IS OF BULK AT MOST 1048576: true; the input reads as it did. -/
def fnFrontLinesUptoRow : OpenClaim := { program := "ytkehggbmpdacpabgreatdoor", sum := "ff2f039e3f4ad7733be2bfcad42ddf323e57f06d7f7a81d2baf5c75b7f0168a8", func := "pub-quirehand/laws.FnFrontLines", spec := "fnFrontLines", unfollowed := true, recurses := true, named := ["unicode/utf8.first", "unicode/utf8.acceptRanges", "bytes.asciiSpace", "unicode.White_Space", "unicode.properties", "unicode.Letter", "unicode.Digit", "bytes.ErrTooLarge"], apart := false, laid := [("unicode/utf8.acceptRanges", laid_unicode_utf8_acceptRanges), ("unicode.White_Space", laid_unicode_White_Space), ("unicode.properties", laid_unicode_properties), ("bytes.ErrTooLarge", laid_bytes_ErrTooLarge), ("bytes.asciiSpace", laid_bytes_asciiSpace), ("unicode.Digit", laid_unicode_Digit), ("unicode.Letter", laid_unicode_Letter), ("unicode/utf8.first", laid_unicode_utf8_first)], narrowed := true }
def FnFrontLinesUptoSaid : Prop := fnFrontLinesUptoRow.holds Tryz.pinned (OpenSpec.upto fnFrontLinesSpec)

/-- 'laws.FnFrontNone', WHERE WHAT IT READS IS OF BULK AT MOST 1048576: true; the input reads as it did. -/
def fnFrontNoneUptoRow : OpenClaim := { program := "ytkehggbmpdacpabgreatdoor", sum := "ff2f039e3f4ad7733be2bfcad42ddf323e57f06d7f7a81d2baf5c75b7f0168a8", func := "pub-quirehand/laws.FnFrontNone", spec := "fnFrontNone", unfollowed := true, recurses := true, named := ["unicode/utf8.first", "unicode/utf8.acceptRanges", "bytes.asciiSpace", "unicode.White_Space", "unicode.properties", "unicode.Letter", "unicode.Digit", "bytes.ErrTooLarge"], apart := false, laid := [("unicode/utf8.acceptRanges", laid_unicode_utf8_acceptRanges), ("unicode.White_Space", laid_unicode_White_Space), ("unicode.properties", laid_unicode_properties), ("bytes.ErrTooLarge", laid_bytes_ErrTooLarge), ("bytes.asciiSpace", laid_bytes_asciiSpace), ("unicode.Digit", laid_unicode_Digit), ("unicode.Letter", laid_unicode_Letter), ("unicode/utf8.first", laid_unicode_utf8_first)], narrowed := true }
def FnFrontNoneUptoSaid : Prop := fnFrontNoneUptoRow.holds Tryz.pinned (OpenSpec.upto fnFrontNoneSpec)

/-- 'laws.FnIndented', WHERE WHAT IT READS IS OF BULK AT MOST 1048576: true; the input reads as it did. -/
def fnIndentedUptoRow : OpenClaim := { program := "ytkehggbmpdacpabgreatdoor", sum := "ff2f039e3f4ad7733be2bfcad42ddf323e57f06d7f7a81d2baf5c75b7f0168a8", func := "pub-quirehand/laws.FnIndented", spec := "fnIndented", unfollowed := true, recurses := true, named := ["unicode/utf8.first", "unicode/utf8.acceptRanges", "bytes.asciiSpace", "unicode.White_Space", "unicode.properties", "unicode.Letter", "unicode.Digit", "bytes.ErrTooLarge"], apart := false, laid := [("unicode/utf8.acceptRanges", laid_unicode_utf8_acceptRanges), ("unicode.White_Space", laid_unicode_White_Space), ("unicode.properties", laid_unicode_properties), ("bytes.ErrTooLarge", laid_bytes_ErrTooLarge), ("bytes.asciiSpace", laid_bytes_asciiSpace), ("unicode.Digit", laid_unicode_Digit), ("unicode.Letter", laid_unicode_Letter), ("unicode/utf8.first", laid_unicode_utf8_first)], narrowed := true }
def FnIndentedUptoSaid : Prop := fnIndentedUptoRow.holds Tryz.pinned (OpenSpec.upto fnIndentedSpec)

/-- 'laws.FnInline', WHERE WHAT IT READS IS OF BULK AT MOST 1048576: true; the input reads as it did. -/
def fnInlineUptoRow : OpenClaim := { program := "ytkehggbmpdacpabgreatdoor", sum := "ff2f039e3f4ad7733be2bfcad42ddf323e57f06d7f7a81d2baf5c75b7f0168a8", func := "pub-quirehand/laws.FnInline", spec := "fnInline", unfollowed := true, recurses := true, named := ["unicode/utf8.first", "unicode/utf8.acceptRanges", "bytes.asciiSpace", "unicode.White_Space", "unicode.properties", "unicode.Letter", "unicode.Digit", "bytes.ErrTooLarge"], apart := false, laid := [("unicode/utf8.acceptRanges", laid_unicode_utf8_acceptRanges), ("unicode.White_Space", laid_unicode_White_Space), ("unicode.properties", laid_unicode_properties), ("bytes.ErrTooLarge", laid_bytes_ErrTooLarge), ("bytes.asciiSpace", laid_bytes_asciiSpace), ("unicode.Digit", laid_unicode_Digit), ("unicode.Letter", laid_unicode_Letter), ("unicode/utf8.first", laid_unicode_utf8_first)], narrowed := true }
def FnInlineUptoSaid : Prop := fnInlineUptoRow.holds Tryz.pinned (OpenSpec.upto fnInlineSpec)

/-- 'laws.FnInlineOther', WHERE WHAT IT READS IS OF BULK AT MOST 1048576: true; the input reads as it did. -/
def fnInlineOtherUptoRow : OpenClaim := { program := "ytkehggbmpdacpabgreatdoor", sum := "ff2f039e3f4ad7733be2bfcad42ddf323e57f06d7f7a81d2baf5c75b7f0168a8", func := "pub-quirehand/laws.FnInlineOther", spec := "fnInlineOther", unfollowed := true, recurses := true, named := ["unicode/utf8.first", "unicode/utf8.acceptRanges", "bytes.asciiSpace", "unicode.White_Space", "unicode.properties", "unicode.Letter", "unicode.Digit", "bytes.ErrTooLarge"], apart := false, laid := [("unicode/utf8.acceptRanges", laid_unicode_utf8_acceptRanges), ("unicode.White_Space", laid_unicode_White_Space), ("unicode.properties", laid_unicode_properties), ("bytes.ErrTooLarge", laid_bytes_ErrTooLarge), ("bytes.asciiSpace", laid_bytes_asciiSpace), ("unicode.Digit", laid_unicode_Digit), ("unicode.Letter", laid_unicode_Letter), ("unicode/utf8.first", laid_unicode_utf8_first)], narrowed := true }
def FnInlineOtherUptoSaid : Prop := fnInlineOtherUptoRow.holds Tryz.pinned (OpenSpec.upto fnInlineOtherSpec)

/-- 'laws.FnJSON', WHERE WHAT IT READS IS OF BULK AT MOST 1048576: true; the input reads as it did. -/
def fnJSONUptoRow : OpenClaim := { program := "ytkehggbmpdacpabgreatdoor", sum := "ff2f039e3f4ad7733be2bfcad42ddf323e57f06d7f7a81d2baf5c75b7f0168a8", func := "pub-quirehand/laws.FnJSON", spec := "fnJSON", unfollowed := true, recurses := true, named := ["unicode/utf8.first", "unicode/utf8.acceptRanges", "bytes.asciiSpace", "unicode.White_Space", "unicode.properties", "unicode.Letter", "unicode.Digit", "bytes.ErrTooLarge"], apart := false, laid := [("unicode/utf8.acceptRanges", laid_unicode_utf8_acceptRanges), ("unicode.White_Space", laid_unicode_White_Space), ("unicode.properties", laid_unicode_properties), ("bytes.ErrTooLarge", laid_bytes_ErrTooLarge), ("bytes.asciiSpace", laid_bytes_asciiSpace), ("unicode.Digit", laid_unicode_Digit), ("unicode.Letter", laid_unicode_Letter), ("unicode/utf8.first", laid_unicode_utf8_first)], narrowed := true }
def FnJSONUptoSaid : Prop := fnJSONUptoRow.holds Tryz.pinned (OpenSpec.upto fnJSONSpec)

/-- 'laws.FnMixed', WHERE WHAT IT READS IS OF BULK AT MOST 1048576: true; the input reads as it did. -/
def fnMixedUptoRow : OpenClaim := { program := "ytkehggbmpdacpabgreatdoor", sum := "ff2f039e3f4ad7733be2bfcad42ddf323e57f06d7f7a81d2baf5c75b7f0168a8", func := "pub-quirehand/laws.FnMixed", spec := "fnMixed", unfollowed := true, recurses := true, named := ["unicode/utf8.first", "unicode/utf8.acceptRanges", "bytes.asciiSpace", "unicode.White_Space", "unicode.properties", "unicode.Letter", "unicode.Digit", "bytes.ErrTooLarge"], apart := false, laid := [("unicode/utf8.acceptRanges", laid_unicode_utf8_acceptRanges), ("unicode.White_Space", laid_unicode_White_Space), ("unicode.properties", laid_unicode_properties), ("bytes.ErrTooLarge", laid_bytes_ErrTooLarge), ("bytes.asciiSpace", laid_bytes_asciiSpace), ("unicode.Digit", laid_unicode_Digit), ("unicode.Letter", laid_unicode_Letter), ("unicode/utf8.first", laid_unicode_utf8_first)], narrowed := true }
def FnMixedUptoSaid : Prop := fnMixedUptoRow.holds Tryz.pinned (OpenSpec.upto fnMixedSpec)

/-- 'laws.FnName', WHERE WHAT IT READS IS OF BULK AT MOST 1048576: true; the input reads as it did. -/
def fnNameUptoRow : OpenClaim := { program := "ytkehggbmpdacpabgreatdoor", sum := "ff2f039e3f4ad7733be2bfcad42ddf323e57f06d7f7a81d2baf5c75b7f0168a8", func := "pub-quirehand/laws.FnName", spec := "fnName", unfollowed := true, recurses := true, named := ["unicode/utf8.first", "unicode/utf8.acceptRanges", "bytes.asciiSpace", "unicode.White_Space", "unicode.properties", "unicode.Letter", "unicode.Digit", "bytes.ErrTooLarge"], apart := false, laid := [("unicode/utf8.acceptRanges", laid_unicode_utf8_acceptRanges), ("unicode.White_Space", laid_unicode_White_Space), ("unicode.properties", laid_unicode_properties), ("bytes.ErrTooLarge", laid_bytes_ErrTooLarge), ("bytes.asciiSpace", laid_bytes_asciiSpace), ("unicode.Digit", laid_unicode_Digit), ("unicode.Letter", laid_unicode_Letter), ("unicode/utf8.first", laid_unicode_utf8_first)], narrowed := true }
def FnNameUptoSaid : Prop := fnNameUptoRow.holds Tryz.pinned (OpenSpec.upto fnNameSpec)

/-- 'laws.FnNamed', WHERE WHAT IT READS IS OF BULK AT MOST 1048576: true; the input reads as it did. -/
def fnNamedUptoRow : OpenClaim := { program := "ytkehggbmpdacpabgreatdoor", sum := "ff2f039e3f4ad7733be2bfcad42ddf323e57f06d7f7a81d2baf5c75b7f0168a8", func := "pub-quirehand/laws.FnNamed", spec := "fnNamed", unfollowed := true, recurses := true, named := ["unicode/utf8.first", "unicode/utf8.acceptRanges", "bytes.asciiSpace", "unicode.White_Space", "unicode.properties", "unicode.Letter", "unicode.Digit", "bytes.ErrTooLarge"], apart := false, laid := [("unicode/utf8.acceptRanges", laid_unicode_utf8_acceptRanges), ("unicode.White_Space", laid_unicode_White_Space), ("unicode.properties", laid_unicode_properties), ("bytes.ErrTooLarge", laid_bytes_ErrTooLarge), ("bytes.asciiSpace", laid_bytes_asciiSpace), ("unicode.Digit", laid_unicode_Digit), ("unicode.Letter", laid_unicode_Letter), ("unicode/utf8.first", laid_unicode_utf8_first)], narrowed := true }
def FnNamedUptoSaid : Prop := fnNamedUptoRow.holds Tryz.pinned (OpenSpec.upto fnNamedSpec)

/-- 'laws.FnNested', WHERE WHAT IT READS IS OF BULK AT MOST 1048576: true; the input reads as it did. -/
def fnNestedUptoRow : OpenClaim := { program := "ytkehggbmpdacpabgreatdoor", sum := "ff2f039e3f4ad7733be2bfcad42ddf323e57f06d7f7a81d2baf5c75b7f0168a8", func := "pub-quirehand/laws.FnNested", spec := "fnNested", unfollowed := true, recurses := true, named := ["unicode/utf8.first", "unicode/utf8.acceptRanges", "bytes.asciiSpace", "unicode.White_Space", "unicode.properties", "unicode.Letter", "unicode.Digit", "bytes.ErrTooLarge"], apart := false, laid := [("unicode/utf8.acceptRanges", laid_unicode_utf8_acceptRanges), ("unicode.White_Space", laid_unicode_White_Space), ("unicode.properties", laid_unicode_properties), ("bytes.ErrTooLarge", laid_bytes_ErrTooLarge), ("bytes.asciiSpace", laid_bytes_asciiSpace), ("unicode.Digit", laid_unicode_Digit), ("unicode.Letter", laid_unicode_Letter), ("unicode/utf8.first", laid_unicode_utf8_first)], narrowed := true }
def FnNestedUptoSaid : Prop := fnNestedUptoRow.holds Tryz.pinned (OpenSpec.upto fnNestedSpec)

end Rows
end Go.Proofs.YtkehggbmpdacpabGreatDoor
