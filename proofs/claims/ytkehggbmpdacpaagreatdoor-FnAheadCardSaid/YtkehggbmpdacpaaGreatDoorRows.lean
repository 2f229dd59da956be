/-
  NARROWER THAN 'FOR EVERY INPUT', by the rows' own cells (each row's printed sentence says how): FnAhead: laid · FnBare: laid · FnBareNamed: laid · FnBehind: laid · FnBuilt: laid · FnClosed: laid · FnClosedBehind: laid · FnClosedUnopened: laid · FnComment: laid · FnCommentUnended: laid · FnDivider: laid.
  DERIVED. THE GIVEN ROWS OF THIS SEAT. 11 by the template 'for every input the law returns true; each argument reads behind the call as it read before'; 0 by the template 'total and deterministic' (their statements: YtkehggbmpdacpaaGreatDoorTotals.lean).
  GIVEN WITH THE SEED: the statements are not yours to turn. If you find one false, say at which input.
  Laid BY PROGRAM, IN A SANDBOX (cutbox-rows.mjs): the forced cells as the released guide's own fill.sh prints them over the translation 433a4cec065a038a… (all of the seat's roots in one cut). By AI agents, Wed Nov 11 2026. No macro, syntax, notation, axiom, sorry.
-/
import Derived.Test.YtkehggbmpdacpaaGreatDoorChecked
import GoSem.PinnedTables
import GoSem.Claim
import GoSem.ClaimJoined
import GoSem.ClaimMapViews
import Derived.JoinedTies
import Derived.KernelRfl
namespace Go.Proofs.YtkehggbmpdacpaaGreatDoor
/- THE CELL 'sum', in the pinned program and in every row, IS THE sha256 OF THE DUMP (.gsa) THAT YtkehggbmpdacpaaGreatDoorProg.lean LOADS. Nothing in Lean hashes anything: it is a label: what it is worth is what the hold of that sum in a sandbox is worth. -/
noncomputable def Tryz.pinned : Pinned := { name := "ytkehggbmpdacpaagreatdoor", sum := "433a4cec065a038a6158ab28669781532a2b7730e92477821562543cd3e71d93", checked := Tryz.checked }
namespace Rows
def none {H : Type} : Left H := { results := [], args := [] }

/- WHAT THE LISTED PACKAGE-LEVEL VARIABLES READ AS WHEN THE CALL BEGINS. Each datum BY PROGRAM (the guide's laid-datum.mjs) off the statement by which the dump's own 'gosem.cut.vars' lays the variable. In a bare row this is a premise. The card (YtkehggbmpdacpaaGreatDoorCards.lean) ties it to the program's text. -/
def laid_unicode_utf8_acceptRanges {H : Type} : DataW H := .agg [.agg [.lit (.int .u8 128), .lit (.int .u8 191)], .agg [.lit (.int .u8 160), .lit (.int .u8 191)], .agg [.lit (.int .u8 128), .lit (.int .u8 159)], .agg [.lit (.int .u8 144), .lit (.int .u8 191)], .agg [.lit (.int .u8 128), .lit (.int .u8 143)], .agg [.lit (.int .u8 0), .lit (.int .u8 0)], .agg [.lit (.int .u8 0), .lit (.int .u8 0)], .agg [.lit (.int .u8 0), .lit (.int .u8 0)], .agg [.lit (.int .u8 0), .lit (.int .u8 0)], .agg [.lit (.int .u8 0), .lit (.int .u8 0)], .agg [.lit (.int .u8 0), .lit (.int .u8 0)], .agg [.lit (.int .u8 0), .lit (.int .u8 0)], .agg [.lit (.int .u8 0), .lit (.int .u8 0)], .agg [.lit (.int .u8 0), .lit (.int .u8 0)], .agg [.lit (.int .u8 0), .lit (.int .u8 0)], .agg [.lit (.int .u8 0), .lit (.int .u8 0)]]
def laid_unicode_White_Space {H : Type} : DataW H := .ptr (.agg [.slice [.agg [.lit (.int .u16 9), .lit (.int .u16 13), .lit (.int .u16 1)], .agg [.lit (.int .u16 32), .lit (.int .u16 133), .lit (.int .u16 101)], .agg [.lit (.int .u16 160), .lit (.int .u16 5760), .lit (.int .u16 5600)], .agg [.lit (.int .u16 8192), .lit (.int .u16 8202), .lit (.int .u16 1)], .agg [.lit (.int .u16 8232), .lit (.int .u16 8233), .lit (.int .u16 1)], .agg [.lit (.int .u16 8239), .lit (.int .u16 8287), .lit (.int .u16 48)], .agg [.lit (.int .u16 12288), .lit (.int .u16 12288), .lit (.int .u16 1)]] [], .nil, .lit (.int .i64 2)])
def laid_unicode_properties {H : Type} : DataW H := .agg [.lit (.int .u8 1), .lit (.int .u8 1), .lit (.int .u8 1), .lit (.int .u8 1), .lit (.int .u8 1), .lit (.int .u8 1), .lit (.int .u8 1), .lit (.int .u8 1), .lit (.int .u8 1), .lit (.int .u8 1), .lit (.int .u8 1), .lit (.int .u8 1), .lit (.int .u8 1), .lit (.int .u8 1), .lit (.int .u8 1), .lit (.int .u8 1), .lit (.int .u8 1), .lit (.int .u8 1), .lit (.int .u8 1), .lit (.int .u8 1), .lit (.int .u8 1), .lit (.int .u8 1), .lit (.int .u8 1), .lit (.int .u8 1), .lit (.int .u8 1), .lit (.int .u8 1), .lit (.int .u8 1), .lit (.int .u8 1), .lit (.int .u8 1), .lit (.int .u8 1), .lit (.int .u8 1), .lit (.int .u8 1), .lit (.int .u8 144), .lit (.int .u8 130), .lit (.int .u8 130), .lit (.int .u8 130), .lit (.int .u8 136), .lit (.int .u8 130), .lit (.int .u8 130), .lit (.int .u8 130), .lit (.int .u8 130), .lit (.int .u8 130), .lit (.int .u8 130), .lit (.int .u8 136), .lit (.int .u8 130), .lit (.int .u8 130), .lit (.int .u8 130), .lit (.int .u8 130), .lit (.int .u8 132), .lit (.int .u8 132), .lit (.int .u8 132), .lit (.int .u8 132), .lit (.int .u8 132), .lit (.int .u8 132), .lit (.int .u8 132), .lit (.int .u8 132), .lit (.int .u8 132), .lit (.int .u8 132), .lit (.int .u8 130), .lit (.int .u8 130), .lit (.int .u8 136), .lit (.int .u8 136), .lit (.int .u8 136), .lit (.int .u8 130), .lit (.int .u8 130), .lit (.int .u8 160), .lit (.int .u8 160), .lit (.int .u8 160), .lit (.int .u8 160), .lit (.int .u8 160), .lit (.int .u8 160), .lit (.int .u8 160), .lit (.int .u8 160), .lit (.int .u8 160), .lit (.int .u8 160), .lit (.int .u8 160), .lit (.int .u8 160), .lit (.int .u8 160), .lit (.int .u8 160), .lit (.int .u8 160), .lit (.int .u8 160), .lit (.int .u8 160), .lit (.int .u8 160), .lit (.int .u8 160), .lit (.int .u8 160), .lit (.int .u8 160), .lit (.int .u8 160), .lit (.int .u8 160), .lit (.int .u8 160), .lit (.int .u8 160), .lit (.int .u8 160), .lit (.int .u8 130), .lit (.int .u8 130), .lit (.int .u8 130), .lit (.int .u8 136), .lit (.int .u8 130), .lit (.int .u8 136), .lit (.int .u8 192), .lit (.int .u8 192), .lit (.int .u8 192), .lit (.int .u8 192), .lit (.int .u8 192), .lit (.int .u8 192), .lit (.int .u8 192), .lit (.int .u8 192), .lit (.int .u8 192), .lit (.int .u8 192), .lit (.int .u8 192), .lit (.int .u8 192), .lit (.int .u8 192), .lit (.int .u8 192), .lit (.int .u8 192), .lit (.int .u8 192), .lit (.int .u8 192), .lit (.int .u8 192), .lit (.int .u8 192), .lit (.int .u8 192), .lit (.int .u8 192), .lit (.int .u8 192), .lit (.int .u8 192), .lit (.int .u8 192), .lit (.int .u8 192), .lit (.int .u8 192), .lit (.int .u8 130), .lit (.int .u8 136), .lit (.int .u8 130), .lit (.int .u8 136), .lit (.int .u8 1), .lit (.int .u8 1), .lit (.int .u8 1), .lit (.int .u8 1), .lit (.int .u8 1), .lit (.int .u8 1), .lit (.int .u8 1), .lit (.int .u8 1), .lit (.int .u8 1), .lit (.int .u8 1), .lit (.int .u8 1), .lit (.int .u8 1), .lit (.int .u8 1), .lit (.int .u8 1), .lit (.int .u8 1), .lit (.int .u8 1), .lit (.int .u8 1), .lit (.int .u8 1), .lit (.int .u8 1), .lit (.int .u8 1), .lit (.int .u8 1), .lit (.int .u8 1), .lit (.int .u8 1), .lit (.int .u8 1), .lit (.int .u8 1), .lit (.int .u8 1), .lit (.int .u8 1), .lit (.int .u8 1), .lit (.int .u8 1), .lit (.int .u8 1), .lit (.int .u8 1), .lit (.int .u8 1), .lit (.int .u8 1), .lit (.int .u8 16), .lit (.int .u8 130), .lit (.int .u8 136), .lit (.int .u8 136), .lit (.int .u8 136), .lit (.int .u8 136), .lit (.int .u8 136), .lit (.int .u8 130), .lit (.int .u8 136), .lit (.int .u8 136), .lit (.int .u8 224), .lit (.int .u8 130), .lit (.int .u8 136), .lit (.int .u8 0), .lit (.int .u8 136), .lit (.int .u8 136), .lit (.int .u8 136), .lit (.int .u8 136), .lit (.int .u8 132), .lit (.int .u8 132), .lit (.int .u8 136), .lit (.int .u8 192), .lit (.int .u8 130), .lit (.int .u8 130), .lit (.int .u8 136), .lit (.int .u8 132), .lit (.int .u8 224), .lit (.int .u8 130), .lit (.int .u8 132), .lit (.int .u8 132), .lit (.int .u8 132), .lit (.int .u8 130), .lit (.int .u8 160), .lit (.int .u8 160), .lit (.int .u8 160), .lit (.int .u8 160), .lit (.int .u8 160), .lit (.int .u8 160), .lit (.int .u8 160), .lit (.int .u8 160), .lit (.int .u8 160), .lit (.int .u8 160), .lit (.int .u8 160), .lit (.int .u8 160), .lit (.int .u8 160), .lit (.int .u8 160), .lit (.int .u8 160), .lit (.int .u8 160), .lit (.int .u8 160), .lit (.int .u8 160), .lit (.int .u8 160), .lit (.int .u8 160), .lit (.int .u8 160), .lit (.int .u8 160), .lit (.int .u8 160), .lit (.int .u8 136), .lit (.int .u8 160), .lit (.int .u8 160), .lit (.int .u8 160), .lit (.int .u8 160), .lit (.int .u8 160), .lit (.int .u8 160), .lit (.int .u8 160), .lit (.int .u8 192), .lit (.int .u8 192), .lit (.int .u8 192), .lit (.int .u8 192), .lit (.int .u8 192), .lit (.int .u8 192), .lit (.int .u8 192), .lit (.int .u8 192), .lit (.int .u8 192), .lit (.int .u8 192), .lit (.int .u8 192), .lit (.int .u8 192), .lit (.int .u8 192), .lit (.int .u8 192), .lit (.int .u8 192), .lit (.int .u8 192), .lit (.int .u8 192), .lit (.int .u8 192), .lit (.int .u8 192), .lit (.int .u8 192), .lit (.int .u8 192), .lit (.int .u8 192), .lit (.int .u8 192), .lit (.int .u8 192), .lit (.int .u8 136), .lit (.int .u8 192), .lit (.int .u8 192), .lit (.int .u8 192), .lit (.int .u8 192), .lit (.int .u8 192), .lit (.int .u8 192), .lit (.int .u8 192), .lit (.int .u8 192)]
def laid_bytes_ErrTooLarge {H : Type} : DataW H := .iface "*errors.errorString" (.ptr (.agg [.lit (.string [98, 121, 116, 101, 115, 46, 66, 117, 102, 102, 101, 114, 58, 32, 116, 111, 111, 32, 108, 97, 114, 103, 101])]))
def laid_bytes_asciiSpace {H : Type} : DataW H := .agg [.lit (.int .u8 0), .lit (.int .u8 0), .lit (.int .u8 0), .lit (.int .u8 0), .lit (.int .u8 0), .lit (.int .u8 0), .lit (.int .u8 0), .lit (.int .u8 0), .lit (.int .u8 0), .lit (.int .u8 1), .lit (.int .u8 1), .lit (.int .u8 1), .lit (.int .u8 1), .lit (.int .u8 1), .lit (.int .u8 0), .lit (.int .u8 0), .lit (.int .u8 0), .lit (.int .u8 0), .lit (.int .u8 0), .lit (.int .u8 0), .lit (.int .u8 0), .lit (.int .u8 0), .lit (.int .u8 0), .lit (.int .u8 0), .lit (.int .u8 0), .lit (.int .u8 0), .lit (.int .u8 0), .lit (.int .u8 0), .lit (.int .u8 0), .lit (.int .u8 0), .lit (.int .u8 0), .lit (.int .u8 0), .lit (.int .u8 1), .lit (.int .u8 0), .lit (.int .u8 0), .lit (.int .u8 0), .lit (.int .u8 0), .lit (.int .u8 0), .lit (.int .u8 0), .lit (.int .u8 0), .lit (.int .u8 0), .lit (.int .u8 0), .lit (.int .u8 0), .lit (.int .u8 0), .lit (.int .u8 0), .lit (.int .u8 0), .lit (.int .u8 0), .lit (.int .u8 0), .lit (.int .u8 0), .lit (.int .u8 0), .lit (.int .u8 0), .lit (.int .u8 0), .lit (.int .u8 0), .lit (.int .u8 0), .lit (.int .u8 0), .lit (.int .u8 0), .lit (.int .u8 0), .lit (.int .u8 0), .lit (.int .u8 0), .lit (.int .u8 0), .lit (.int .u8 0), .lit (.int .u8 0), .lit (.int .u8 0), .lit (.int .u8 0), .lit (.int .u8 0), .lit (.int .u8 0), .lit (.int .u8 0), .lit (.int .u8 0), .lit (.int .u8 0), .lit (.int .u8 0), .lit (.int .u8 0), .lit (.int .u8 0), .lit (.int .u8 0), .lit (.int .u8 0), .lit (.int .u8 0), .lit (.int .u8 0), .lit (.int .u8 0), .lit (.int .u8 0), .lit (.int .u8 0), .lit (.int .u8 0), .lit (.int .u8 0), .lit (.int .u8 0), .lit (.int .u8 0), .lit (.int .u8 0), .lit (.int .u8 0), .lit (.int .u8 0), .lit (.int .u8 0), .lit (.int .u8 0), .lit (.int .u8 0), .lit (.int .u8 0), .lit (.int .u8 0), .lit (.int .u8 0), .lit (.int .u8 0), .lit (.int .u8 0), .lit (.int .u8 0), .lit (.int .u8 0), .lit (.int .u8 0), .lit (.int .u8 0), .lit (.int .u8 0), .lit (.int .u8 0), .lit (.int .u8 0), .lit (.int .u8 0), .lit (.int .u8 0), .lit (.int .u8 0), .lit (.int .u8 0), .lit (.int .u8 0), .lit (.int .u8 0), .lit (.int .u8 0), .lit (.int .u8 0), .lit (.int .u8 0), .lit (.int .u8 0), .lit (.int .u8 0), .lit (.int .u8 0), .lit (.int .u8 0), .lit (.int .u8 0), .lit (.int .u8 0), .lit (.int .u8 0), .lit (.int .u8 0), .lit (.int .u8 0), .lit (.int .u8 0), .lit (.int .u8 0), .lit (.int .u8 0), .lit (.int .u8 0), .lit (.int .u8 0), .lit (.int .u8 0), .lit (.int .u8 0), .lit (.int .u8 0), .lit (.int .u8 0), .lit (.int .u8 0), .lit (.int .u8 0), .lit (.int .u8 0), .lit (.int .u8 0), .lit (.int .u8 0), .lit (.int .u8 0), .lit (.int .u8 0), .lit (.int .u8 0), .lit (.int .u8 0), .lit (.int .u8 0), .lit (.int .u8 0), .lit (.int .u8 0), .lit (.int .u8 0), .lit (.int .u8 0), .lit (.int .u8 0), .lit (.int .u8 0), .lit (.int .u8 0), .lit (.int .u8 0), .lit (.int .u8 0), .lit (.int .u8 0), .lit (.int .u8 0), .lit (.int .u8 0), .lit (.int .u8 0), .lit (.int .u8 0), .lit (.int .u8 0), .lit (.int .u8 0), .lit (.int .u8 0), .lit (.int .u8 0), .lit (.int .u8 0), .lit (.int .u8 0), .lit (.int .u8 0), .lit (.int .u8 0), .lit (.int .u8 0), .lit (.int .u8 0), .lit (.int .u8 0), .lit (.int .u8 0), .lit (.int .u8 0), .lit (.int .u8 0), .lit (.int .u8 0), .lit (.int .u8 0), .lit (.int .u8 0), .lit (.int .u8 0), .lit (.int .u8 0), .lit (.int .u8 0), .lit (.int .u8 0), .lit (.int .u8 0), .lit (.int .u8 0), .lit (.int .u8 0), .lit (.int .u8 0), .lit (.int .u8 0), .lit (.int .u8 0), .lit (.int .u8 0), .lit (.int .u8 0), .lit (.int .u8 0), .lit (.int .u8 0), .lit (.int .u8 0), .lit (.int .u8 0), .lit (.int .u8 0), .lit (.int .u8 0), .lit (.int .u8 0), .lit (.int .u8 0), .lit (.int .u8 0), .lit (.int .u8 0), .lit (.int .u8 0), .lit (.int .u8 0), .lit (.int .u8 0), .lit (.int .u8 0), .lit (.int .u8 0), .lit (.int .u8 0), .lit (.int .u8 0), .lit (.int .u8 0), .lit (.int .u8 0), .lit (.int .u8 0), .lit (.int .u8 0), .lit (.int .u8 0), .lit (.int .u8 0), .lit (.int .u8 0), .lit (.int .u8 0), .lit (.int .u8 0), .lit (.int .u8 0), .lit (.int .u8 0), .lit (.int .u8 0), .lit (.int .u8 0), .lit (.int .u8 0), .lit (.int .u8 0), .lit (.int .u8 0), .lit (.int .u8 0), .lit (.int .u8 0), .lit (.int .u8 0), .lit (.int .u8 0), .lit (.int .u8 0), .lit (.int .u8 0), .lit (.int .u8 0), .lit (.int .u8 0), .lit (.int .u8 0), .lit (.int .u8 0), .lit (.int .u8 0), .lit (.int .u8 0), .lit (.int .u8 0), .lit (.int .u8 0), .lit (.int .u8 0), .lit (.int .u8 0), .lit (.int .u8 0), .lit (.int .u8 0), .lit (.int .u8 0), .lit (.int .u8 0), .lit (.int .u8 0), .lit (.int .u8 0), .lit (.int .u8 0), .lit (.int .u8 0), .lit (.int .u8 0), .lit (.int .u8 0), .lit (.int .u8 0), .lit (.int .u8 0), .lit (.int .u8 0), .lit (.int .u8 0), .lit (.int .u8 0), .lit (.int .u8 0), .lit (.int .u8 0), .lit (.int .u8 0), .lit (.int .u8 0), .lit (.int .u8 0), .lit (.int .u8 0), .lit (.int .u8 0), .lit (.int .u8 0), .lit (.int .u8 0), .lit (.int .u8 0), .lit (.int .u8 0)]
/-- One of Go's own tables, pinned by name: the form's constant. -/
def laid_unicode_Digit : DataW Unit := Go.Pinned.digit
/-- One of Go's own tables, pinned by name: the form's constant. -/
def laid_unicode_Letter : DataW Unit := Go.Pinned.letter
/-- One of Go's own tables, pinned by name: the form's constant. -/
def laid_unicode_utf8_first : DataW Unit := Go.Pinned.utf8First

/-- 'laws.FnAhead': WHATEVER THE INPUT: true; the input reads as it did. -/
def fnAheadSpec : ChangeSpec := { name := "fnAhead", fn := fun _ => fun
  | [d1, d2] => { results := [.lit (.bool true)], args := [d1, d2] }
  | _ => none }
def fnAheadRow : OpenClaim := { program := "ytkehggbmpdacpaagreatdoor", sum := "433a4cec065a038a6158ab28669781532a2b7730e92477821562543cd3e71d93", func := "pub-quirehand/laws.FnAhead", spec := "fnAhead", unfollowed := true, recurses := true, named := ["unicode/utf8.first", "unicode/utf8.acceptRanges", "bytes.asciiSpace", "unicode.White_Space", "unicode.properties", "unicode.Letter", "unicode.Digit", "bytes.ErrTooLarge"], apart := false, laid := [("unicode/utf8.acceptRanges", laid_unicode_utf8_acceptRanges), ("unicode.White_Space", laid_unicode_White_Space), ("unicode.properties", laid_unicode_properties), ("bytes.ErrTooLarge", laid_bytes_ErrTooLarge), ("bytes.asciiSpace", laid_bytes_asciiSpace), ("unicode.Digit", laid_unicode_Digit), ("unicode.Letter", laid_unicode_Letter), ("unicode/utf8.first", laid_unicode_utf8_first)] }
def FnAheadSaid : Prop := fnAheadRow.holds Tryz.pinned (OpenSpec.ofChange fnAheadSpec)

/-- ITS FALSE NEIGHBOUR: 'it returns false'. Refute it at one input. -/
def fnAheadWrong : ChangeSpec := { name := "fnAhead", fn := fun _ => fun
  | [d1, d2] => { results := [.lit (.bool false)], args := [d1, d2] }
  | _ => none }
def FnAheadWrongFalsely : Prop := fnAheadRow.holds Tryz.pinned (OpenSpec.ofChange fnAheadWrong)

/-- 'laws.FnBare': WHATEVER THE INPUT: true; the input reads as it did. -/
def fnBareSpec : ChangeSpec := { name := "fnBare", fn := fun _ => fun
  | [d1, d2, d3] => { results := [.lit (.bool true)], args := [d1, d2, d3] }
  | _ => none }
def fnBareRow : OpenClaim := { program := "ytkehggbmpdacpaagreatdoor", sum := "433a4cec065a038a6158ab28669781532a2b7730e92477821562543cd3e71d93", func := "pub-quirehand/laws.FnBare", spec := "fnBare", unfollowed := true, recurses := true, named := ["unicode/utf8.first", "unicode/utf8.acceptRanges", "bytes.asciiSpace", "unicode.White_Space", "unicode.properties", "unicode.Letter", "unicode.Digit", "bytes.ErrTooLarge"], apart := false, laid := [("unicode/utf8.acceptRanges", laid_unicode_utf8_acceptRanges), ("unicode.White_Space", laid_unicode_White_Space), ("unicode.properties", laid_unicode_properties), ("bytes.ErrTooLarge", laid_bytes_ErrTooLarge), ("bytes.asciiSpace", laid_bytes_asciiSpace), ("unicode.Digit", laid_unicode_Digit), ("unicode.Letter", laid_unicode_Letter), ("unicode/utf8.first", laid_unicode_utf8_first)] }
def FnBareSaid : Prop := fnBareRow.holds Tryz.pinned (OpenSpec.ofChange fnBareSpec)

/-- ITS FALSE NEIGHBOUR: 'it returns false'. Refute it at one input. -/
def fnBareWrong : ChangeSpec := { name := "fnBare", fn := fun _ => fun
  | [d1, d2, d3] => { results := [.lit (.bool false)], args := [d1, d2, d3] }
  | _ => none }
def FnBareWrongFalsely : Prop := fnBareRow.holds Tryz.pinned (OpenSpec.ofChange fnBareWrong)

/-- 'laws.FnBareNamed': WHATEVER THE INPUT: true; the input reads as it did. -/
def fnBareNamedSpec : ChangeSpec := { name := "fnBareNamed", fn := fun _ => fun
  | [d1, d2, d3, d4] => { results := [.lit (.bool true)], args := [d1, d2, d3, d4] }
  | _ => none }
def fnBareNamedRow : OpenClaim := { program := "ytkehggbmpdacpaagreatdoor", sum := "433a4cec065a038a6158ab28669781532a2b7730e92477821562543cd3e71d93", func := "pub-quirehand/laws.FnBareNamed", spec := "fnBareNamed", unfollowed := true, recurses := true, named := ["unicode/utf8.first", "unicode/utf8.acceptRanges", "bytes.asciiSpace", "unicode.White_Space", "unicode.properties", "unicode.Letter", "unicode.Digit", "bytes.ErrTooLarge"], apart := false, laid := [("unicode/utf8.acceptRanges", laid_unicode_utf8_acceptRanges), ("unicode.White_Space", laid_unicode_White_Space), ("unicode.properties", laid_unicode_properties), ("bytes.ErrTooLarge", laid_bytes_ErrTooLarge), ("bytes.asciiSpace", laid_bytes_asciiSpace), ("unicode.Digit", laid_unicode_Digit), ("unicode.Letter", laid_unicode_Letter), ("unicode/utf8.first", laid_unicode_utf8_first)] }
def FnBareNamedSaid : Prop := fnBareNamedRow.holds Tryz.pinned (OpenSpec.ofChange fnBareNamedSpec)

/-- ITS FALSE NEIGHBOUR: 'it returns false'. Refute it at one input. -/
def fnBareNamedWrong : ChangeSpec := { name := "fnBareNamed", fn := fun _ => fun
  | [d1, d2, d3, d4] => { results := [.lit (.bool false)], args := [d1, d2, d3, d4] }
  | _ => none }
def FnBareNamedWrongFalsely : Prop := fnBareNamedRow.holds Tryz.pinned (OpenSpec.ofChange fnBareNamedWrong)

/-- 'laws.FnBehind': WHATEVER THE INPUT: true; the input reads as it did. -/
def fnBehindSpec : ChangeSpec := { name := "fnBehind", fn := fun _ => fun
  | [d1, d2] => { results := [.lit (.bool true)], args := [d1, d2] }
  | _ => none }
def fnBehindRow : OpenClaim := { program := "ytkehggbmpdacpaagreatdoor", sum := "433a4cec065a038a6158ab28669781532a2b7730e92477821562543cd3e71d93", func := "pub-quirehand/laws.FnBehind", spec := "fnBehind", unfollowed := true, recurses := true, named := ["unicode/utf8.first", "unicode/utf8.acceptRanges", "bytes.asciiSpace", "unicode.White_Space", "unicode.properties", "unicode.Letter", "unicode.Digit", "bytes.ErrTooLarge"], apart := false, laid := [("unicode/utf8.acceptRanges", laid_unicode_utf8_acceptRanges), ("unicode.White_Space", laid_unicode_White_Space), ("unicode.properties", laid_unicode_properties), ("bytes.ErrTooLarge", laid_bytes_ErrTooLarge), ("bytes.asciiSpace", laid_bytes_asciiSpace), ("unicode.Digit", laid_unicode_Digit), ("unicode.Letter", laid_unicode_Letter), ("unicode/utf8.first", laid_unicode_utf8_first)] }
def FnBehindSaid : Prop := fnBehindRow.holds Tryz.pinned (OpenSpec.ofChange fnBehindSpec)

/-- ITS FALSE NEIGHBOUR: 'it returns false'. Refute it at one input. -/
def fnBehindWrong : ChangeSpec := { name := "fnBehind", fn := fun _ => fun
  | [d1, d2] => { results := [.lit (.bool false)], args := [d1, d2] }
  | _ => none }
def FnBehindWrongFalsely : Prop := fnBehindRow.holds Tryz.pinned (OpenSpec.ofChange fnBehindWrong)

/-- 'laws.FnBuilt': WHATEVER THE INPUT: true; the input reads as it did. -/
def fnBuiltSpec : ChangeSpec := { name := "fnBuilt", fn := fun _ => fun
  | [d1, d2, d3] => { results := [.lit (.bool true)], args := [d1, d2, d3] }
  | _ => none }
def fnBuiltRow : OpenClaim := { program := "ytkehggbmpdacpaagreatdoor", sum := "433a4cec065a038a6158ab28669781532a2b7730e92477821562543cd3e71d93", func := "pub-quirehand/laws.FnBuilt", spec := "fnBuilt", unfollowed := true, recurses := true, named := ["unicode/utf8.first", "unicode/utf8.acceptRanges", "bytes.asciiSpace", "unicode.White_Space", "unicode.properties", "unicode.Letter", "unicode.Digit", "bytes.ErrTooLarge"], apart := false, laid := [("unicode/utf8.acceptRanges", laid_unicode_utf8_acceptRanges), ("unicode.White_Space", laid_unicode_White_Space), ("unicode.properties", laid_unicode_properties), ("bytes.ErrTooLarge", laid_bytes_ErrTooLarge), ("bytes.asciiSpace", laid_bytes_asciiSpace), ("unicode.Digit", laid_unicode_Digit), ("unicode.Letter", laid_unicode_Letter), ("unicode/utf8.first", laid_unicode_utf8_first)] }
def FnBuiltSaid : Prop := fnBuiltRow.holds Tryz.pinned (OpenSpec.ofChange fnBuiltSpec)

/-- ITS FALSE NEIGHBOUR: 'it returns false'. Refute it at one input. -/
def fnBuiltWrong : ChangeSpec := { name := "fnBuilt", fn := fun _ => fun
  | [d1, d2, d3] => { results := [.lit (.bool false)], args := [d1, d2, d3] }
  | _ => none }
def FnBuiltWrongFalsely : Prop := fnBuiltRow.holds Tryz.pinned (OpenSpec.ofChange fnBuiltWrong)

/-- 'laws.FnClosed': WHATEVER THE INPUT: true; the input reads as it did. -/
def fnClosedSpec : ChangeSpec := { name := "fnClosed", fn := fun _ => fun
  | [d1, d2, d3] => { results := [.lit (.bool true)], args := [d1, d2, d3] }
  | _ => none }
def fnClosedRow : OpenClaim := { program := "ytkehggbmpdacpaagreatdoor", sum := "433a4cec065a038a6158ab28669781532a2b7730e92477821562543cd3e71d93", func := "pub-quirehand/laws.FnClosed", spec := "fnClosed", unfollowed := true, recurses := true, named := ["unicode/utf8.first", "unicode/utf8.acceptRanges", "bytes.asciiSpace", "unicode.White_Space", "unicode.properties", "unicode.Letter", "unicode.Digit", "bytes.ErrTooLarge"], apart := false, laid := [("unicode/utf8.acceptRanges", laid_unicode_utf8_acceptRanges), ("unicode.White_Space", laid_unicode_White_Space), ("unicode.properties", laid_unicode_properties), ("bytes.ErrTooLarge", laid_bytes_ErrTooLarge), ("bytes.asciiSpace", laid_bytes_asciiSpace), ("unicode.Digit", laid_unicode_Digit), ("unicode.Letter", laid_unicode_Letter), ("unicode/utf8.first", laid_unicode_utf8_first)] }
def FnClosedSaid : Prop := fnClosedRow.holds Tryz.pinned (OpenSpec.ofChange fnClosedSpec)

/-- ITS FALSE NEIGHBOUR: 'it returns false'. Refute it at one input. -/
def fnClosedWrong : ChangeSpec := { name := "fnClosed", fn := fun _ => fun
  | [d1, d2, d3] => { results := [.lit (.bool false)], args := [d1, d2, d3] }
  | _ => none }
def FnClosedWrongFalsely : Prop := fnClosedRow.holds Tryz.pinned (OpenSpec.ofChange fnClosedWrong)

/-- 'laws.FnClosedBehind': WHATEVER THE INPUT: true; the input reads as it did. -/
def fnClosedBehindSpec : ChangeSpec := { name := "fnClosedBehind", fn := fun _ => fun
  | [d1, d2, d3] => { results := [.lit (.bool true)], args := [d1, d2, d3] }
  | _ => none }
def fnClosedBehindRow : OpenClaim := { program := "ytkehggbmpdacpaagreatdoor", sum := "433a4cec065a038a6158ab28669781532a2b7730e92477821562543cd3e71d93", func := "pub-quirehand/laws.FnClosedBehind", spec := "fnClosedBehind", unfollowed := true, recurses := true, named := ["unicode/utf8.first", "unicode/utf8.acceptRanges", "bytes.asciiSpace", "unicode.White_Space", "unicode.properties", "unicode.Letter", "unicode.Digit", "bytes.ErrTooLarge"], apart := false, laid := [("unicode/utf8.acceptRanges", laid_unicode_utf8_acceptRanges), ("unicode.White_Space", laid_unicode_White_Space), ("unicode.properties", laid_unicode_properties), ("bytes.ErrTooLarge", laid_bytes_ErrTooLarge), ("bytes.asciiSpace", laid_bytes_asciiSpace), ("unicode.Digit", laid_unicode_Digit), ("unicode.Letter", laid_unicode_Letter), ("unicode/utf8.first", laid_unicode_utf8_first)] }
def FnClosedBehindSaid : Prop := fnClosedBehindRow.holds Tryz.pinned (OpenSpec.ofChange fnClosedBehindSpec)

/-- ITS FALSE NEIGHBOUR: 'it returns false'. Refute it at one input. -/
def fnClosedBehindWrong : ChangeSpec := { name := "fnClosedBehind", fn := fun _ => fun
  | [d1, d2, d3] => { results := [.lit (.bool false)], args := [d1, d2, d3] }
  | _ => none }
def FnClosedBehindWrongFalsely : Prop := fnClosedBehindRow.holds Tryz.pinned (OpenSpec.ofChange fnClosedBehindWrong)

/-- 'laws.FnClosedUnopened': WHATEVER THE INPUT: true; the input reads as it did. -/
def fnClosedUnopenedSpec : ChangeSpec := { name := "fnClosedUnopened", fn := fun _ => fun
  | [d1, d2, d3, d4, d5] => { results := [.lit (.bool true)], args := [d1, d2, d3, d4, d5] }
  | _ => none }
def fnClosedUnopenedRow : OpenClaim := { program := "ytkehggbmpdacpaagreatdoor", sum := "433a4cec065a038a6158ab28669781532a2b7730e92477821562543cd3e71d93", func := "pub-quirehand/laws.FnClosedUnopened", spec := "fnClosedUnopened", unfollowed := true, recurses := true, named := ["unicode/utf8.first", "unicode/utf8.acceptRanges", "bytes.asciiSpace", "unicode.White_Space", "unicode.properties", "unicode.Letter", "unicode.Digit", "bytes.ErrTooLarge"], apart := false, laid := [("unicode/utf8.acceptRanges", laid_unicode_utf8_acceptRanges), ("unicode.White_Space", laid_unicode_White_Space), ("unicode.properties", laid_unicode_properties), ("bytes.ErrTooLarge", laid_bytes_ErrTooLarge), ("bytes.asciiSpace", laid_bytes_asciiSpace), ("unicode.Digit", laid_unicode_Digit), ("unicode.Letter", laid_unicode_Letter), ("unicode/utf8.first", laid_unicode_utf8_first)] }
def FnClosedUnopenedSaid : Prop := fnClosedUnopenedRow.holds Tryz.pinned (OpenSpec.ofChange fnClosedUnopenedSpec)

/-- ITS FALSE NEIGHBOUR: 'it returns false'. Refute it at one input. -/
def fnClosedUnopenedWrong : ChangeSpec := { name := "fnClosedUnopened", fn := fun _ => fun
  | [d1, d2, d3, d4, d5] => { results := [.lit (.bool false)], args := [d1, d2, d3, d4, d5] }
  | _ => none }
def FnClosedUnopenedWrongFalsely : Prop := fnClosedUnopenedRow.holds Tryz.pinned (OpenSpec.ofChange fnClosedUnopenedWrong)

/-- 'laws.FnComment': WHATEVER THE INPUT: true; the input reads as it did. -/
def fnCommentSpec : ChangeSpec := { name := "fnComment", fn := fun _ => fun
  | [d1, d2] => { results := [.lit (.bool true)], args := [d1, d2] }
  | _ => none }
def fnCommentRow : OpenClaim := { program := "ytkehggbmpdacpaagreatdoor", sum := "433a4cec065a038a6158ab28669781532a2b7730e92477821562543cd3e71d93", func := "pub-quirehand/laws.FnComment", spec := "fnComment", unfollowed := true, recurses := true, named := ["unicode/utf8.first", "unicode/utf8.acceptRanges", "bytes.asciiSpace", "unicode.White_Space", "unicode.properties", "unicode.Letter", "unicode.Digit", "bytes.ErrTooLarge"], apart := false, laid := [("unicode/utf8.acceptRanges", laid_unicode_utf8_acceptRanges), ("unicode.White_Space", laid_unicode_White_Space), ("unicode.properties", laid_unicode_properties), ("bytes.ErrTooLarge", laid_bytes_ErrTooLarge), ("bytes.asciiSpace", laid_bytes_asciiSpace), ("unicode.Digit", laid_unicode_Digit), ("unicode.Letter", laid_unicode_Letter), ("unicode/utf8.first", laid_unicode_utf8_first)] }
def FnCommentSaid : Prop := fnCommentRow.holds Tryz.pinned (OpenSpec.ofChange fnCommentSpec)

/-- ITS FALSE NEIGHBOUR: 'it returns false'. Refute it at one input. -/
def fnCommentWrong : ChangeSpec := { name := "fnComment", fn := fun _ => fun
  | [d1, d2] => { results := [.lit (.bool false)], args := [d1, d2] }
  | _ => none }
def FnCommentWrongFalsely : Prop := fnCommentRow.holds Tryz.pinned (OpenSpec.ofChange fnCommentWrong)

/-- 'laws.FnCommentUnended': WHATEVER THE INPUT: true; the input reads as it did. -/
def fnCommentUnendedSpec : ChangeSpec := { name := "fnCommentUnended", fn := fun _ => fun
  | [d1, d2] => { results := [.lit (.bool true)], args := [d1, d2] }
  | _ => none }
def fnCommentUnendedRow : OpenClaim := { program := "ytkehggbmpdacpaagreatdoor", sum := "433a4cec065a038a6158ab28669781532a2b7730e92477821562543cd3e71d93", func := "pub-quirehand/laws.FnCommentUnended", spec := "fnCommentUnended", unfollowed := true, recurses := true, named := ["unicode/utf8.first", "unicode/utf8.acceptRanges", "bytes.asciiSpace", "unicode.White_Space", "unicode.properties", "unicode.Letter", "unicode.Digit", "bytes.ErrTooLarge"], apart := false, laid := [("unicode/utf8.acceptRanges", laid_unicode_utf8_acceptRanges), ("unicode.White_Space", laid_unicode_White_Space), ("unicode.properties", laid_unicode_properties), ("bytes.ErrTooLarge", laid_bytes_ErrTooLarge), ("bytes.asciiSpace", laid_bytes_asciiSpace), ("unicode.Digit", laid_unicode_Digit), ("unicode.Letter", laid_unicode_Letter), ("unicode/utf8.first", laid_unicode_utf8_first)] }
def FnCommentUnendedSaid : Prop := fnCommentUnendedRow.holds Tryz.pinned (OpenSpec.ofChange fnCommentUnendedSpec)

/-- ITS FALSE NEIGHBOUR: 'it returns false'. Refute it at one input. -/
def fnCommentUnendedWrong : ChangeSpec := { name := "fnCommentUnended", fn := fun _ => fun
  | [d1, d2] => { results := [.lit (.bool false)], args := [d1, d2] }
  | _ => none }
def FnCommentUnendedWrongFalsely : Prop := fnCommentUnendedRow.holds Tryz.pinned (OpenSpec.ofChange fnCommentUnendedWrong)

/-- 'laws.FnDivider': WHATEVER THE INPUT: true; the input reads as it did. -/
def fnDividerSpec : ChangeSpec := { name := "fnDivider", fn := fun _ => fun
  | [d1, d2, d3] => { results := [.lit (.bool true)], args := [d1, d2, d3] }
  | _ => none }
def fnDividerRow : OpenClaim := { program := "ytkehggbmpdacpaagreatdoor", sum := "433a4cec065a038a6158ab28669781532a2b7730e92477821562543cd3e71d93", func := "pub-quirehand/laws.FnDivider", spec := "fnDivider", unfollowed := true, recurses := true, named := ["unicode/utf8.first", "unicode/utf8.acceptRanges", "bytes.asciiSpace", "unicode.White_Space", "unicode.properties", "unicode.Letter", "unicode.Digit", "bytes.ErrTooLarge"], apart := false, laid := [("unicode/utf8.acceptRanges", laid_unicode_utf8_acceptRanges), ("unicode.White_Space", laid_unicode_White_Space), ("unicode.properties", laid_unicode_properties), ("bytes.ErrTooLarge", laid_bytes_ErrTooLarge), ("bytes.asciiSpace", laid_bytes_asciiSpace), ("unicode.Digit", laid_unicode_Digit), ("unicode.Letter", laid_unicode_Letter), ("unicode/utf8.first", laid_unicode_utf8_first)] }
def FnDividerSaid : Prop := fnDividerRow.holds Tryz.pinned (OpenSpec.ofChange fnDividerSpec)

/-- ITS FALSE NEIGHBOUR: 'it returns false'. Refute it at one input. -/
def fnDividerWrong : ChangeSpec := { name := "fnDivider", fn := fun _ => fun
  | [d1, d2, d3] => { results := [.lit (.bool false)], args := [d1, d2, d3] }
  | _ => none }
def FnDividerWrongFalsely : Prop := fnDividerRow.holds Tryz.pinned (OpenSpec.ofChange fnDividerWrong)

/- THE SECOND FORM. 'bulk': how many values and letters a reading holds, each counted each time it is reached (what is shared counts as often as it is met; a slice's spare places count too). A statement '..UptoSaid' is the law's where the arguments, and the package variables that the reading takes, are together of bulk at most 1048576: NARROWER than '..Said'. Prove '..Said' where nothing that the law and all that it calls make is longer than what came in: it says more and counts as full. Else prove '..UptoSaid'. A law counts once. -/
mutual
def uptoBulk {H : Type} : DataW H → Nat
  | .lit (.string bytes) => bytes.length + 1
  | .lit _ => 1
  | .nil => 1
  | .ptr d => uptoBulk d + 1
  | .slice elems spare => uptoBulkAll elems + uptoBulkAll spare + 1
  | .agg parts => uptoBulkAll parts + 1
  | .iface _ d => uptoBulk d + 1
  | .map entries => uptoBulkEntries entries + 1
  | .held _ => 1
def uptoBulkAll {H : Type} : List (DataW H) → Nat
  | [] => 0
  | d :: r => uptoBulk d + uptoBulkAll r
def uptoBulkEntries {H : Type} : List (Lit × DataW H) → Nat
  | [] => 0
  | x :: r => uptoBulkEntry x + uptoBulkEntries r
def uptoBulkEntry {H : Type} : Lit × DataW H → Nat
  | (.string bytes, d) => bytes.length + uptoBulk d + 1
  | (_, d) => uptoBulk d + 1
 end
def uptoSmall : (H : Type) → List (DataW H) → Bool := fun _ ds => decide (uptoBulkAll ds ≤ 1048576)
def OpenSpec.upto (s : _root_.Go.ChangeSpec) : _root_.Go.OpenSpec := { _root_.Go.OpenSpec.ofChange s with cond := some uptoSmall }

/-- 'laws.FnAhead', WHERE WHAT IT READS IS OF BULK AT MOST 1048576: true; the input reads as it did. -/
def fnAheadUptoRow : OpenClaim := { program := "ytkehggbmpdacpaagreatdoor", sum := "433a4cec065a038a6158ab28669781532a2b7730e92477821562543cd3e71d93", func := "pub-quirehand/laws.FnAhead", spec := "fnAhead", unfollowed := true, recurses := true, named := ["unicode/utf8.first", "unicode/utf8.acceptRanges", "bytes.asciiSpace", "unicode.White_Space", "unicode.properties", "unicode.Letter", "unicode.Digit", "bytes.ErrTooLarge"], apart := false, laid := [("unicode/utf8.acceptRanges", laid_unicode_utf8_acceptRanges), ("unicode.White_Space", laid_unicode_White_Space), ("unicode.properties", laid_unicode_properties), ("bytes.ErrTooLarge", laid_bytes_ErrTooLarge), ("bytes.asciiSpace", laid_bytes_asciiSpace), ("unicode.Digit", laid_unicode_Digit), ("unicode.Letter", laid_unicode_Letter), ("unicode/utf8.first", laid_unicode_utf8_first)], narrowed := true }
def FnAheadUptoSaid : Prop := fnAheadUptoRow.holds Tryz.pinned (OpenSpec.upto fnAheadSpec)

/-- 'laws.FnBare', WHERE WHAT IT READS IS OF BULK AT MOST 1048576: true; the input reads as it did. -/
def fnBareUptoRow : OpenClaim := { program := "ytkehggbmpdacpaagreatdoor", sum := "433a4cec065a038a6158ab28669781532a2b7730e92477821562543cd3e71d93", func := "pub-quirehand/laws.FnBare", spec := "fnBare", unfollowed := true, recurses := true, named := ["unicode/utf8.first", "unicode/utf8.acceptRanges", "bytes.asciiSpace", "unicode.White_Space", "unicode.properties", "unicode.Letter", "unicode.Digit", "bytes.ErrTooLarge"], apart := false, laid := [("unicode/utf8.acceptRanges", laid_unicode_utf8_acceptRanges), ("unicode.White_Space", laid_unicode_White_Space), ("unicode.properties", laid_unicode_properties), ("bytes.ErrTooLarge", laid_bytes_ErrTooLarge), ("bytes.asciiSpace", laid_bytes_asciiSpace), ("unicode.Digit", laid_unicode_Digit), ("unicode.Letter", laid_unicode_Letter), ("unicode/utf8.first", laid_unicode_utf8_first)], narrowed := true }
def FnBareUptoSaid : Prop := fnBareUptoRow.holds Tryz.pinned (OpenSpec.upto fnBareSpec)

/-- 'laws.FnBareNamed', WHERE WHAT IT READS IS OF BULK AT MOST 1048576: true; the input reads as it did. -/
def fnBareNamedUptoRow : OpenClaim := { program := "ytkehggbmpdacpaagreatdoor", sum := "433a4cec065a038a6158ab28669781532a2b7730e92477821562543cd3e71d93", func := "pub-quirehand/laws.FnBareNamed", spec := "fnBareNamed", unfollowed := true, recurses := true, named := ["unicode/utf8.first", "unicode/utf8.acceptRanges", "bytes.asciiSpace", "unicode.White_Space", "unicode.properties", "unicode.Letter", "unicode.Digit", "bytes.ErrTooLarge"], apart := false, laid := [("unicode/utf8.acceptRanges", laid_unicode_utf8_acceptRanges), ("unicode.White_Space", laid_unicode_White_Space), ("unicode.properties", laid_unicode_properties), ("bytes.ErrTooLarge", laid_bytes_ErrTooLarge), ("bytes.asciiSpace", laid_bytes_asciiSpace), ("unicode.Digit", laid_unicode_Digit), ("unicode.Letter", laid_unicode_Letter), ("unicode/utf8.first", laid_unicode_utf8_first)], narrowed := true }
def FnBareNamedUptoSaid : Prop := fnBareNamedUptoRow.holds Tryz.pinned (OpenSpec.upto fnBareNamedSpec)

/-- 'laws.FnBehind', WHERE WHAT IT READS IS OF BULK AT MOST 1048576: true; the input reads as it did. -/
def fnBehindUptoRow : OpenClaim := { program := "ytkehggbmpdacpaagreatdoor", sum := "433a4cec065a038a6158ab28669781532a2b7730e92477821562543cd3e71d93", func := "pub-quirehand/laws.FnBehind", spec := "fnBehind", unfollowed := true, recurses := true, named := ["unicode/utf8.first", "unicode/utf8.acceptRanges", "bytes.asciiSpace", "unicode.White_Space", "unicode.properties", "unicode.Letter", "unicode.Digit", "bytes.ErrTooLarge"], apart := false, laid := [("unicode/utf8.acceptRanges", laid_unicode_utf8_acceptRanges), ("unicode.White_Space", laid_unicode_White_Space), ("unicode.properties", laid_unicode_properties), ("bytes.ErrTooLarge", laid_bytes_ErrTooLarge), ("bytes.asciiSpace", laid_bytes_asciiSpace), ("unicode.Digit", laid_unicode_Digit), ("unicode.Letter", laid_unicode_Letter), ("unicode/utf8.first", laid_unicode_utf8_first)], narrowed := true }
def FnBehindUptoSaid : Prop := fnBehindUptoRow.holds Tryz.pinned (OpenSpec.upto fnBehindSpec)

/-- 'laws.FnBuilt', WHERE WHAT IT READS IS OF BULK AT MOST 1048576: true; the input reads as it did. -/
def fnBuiltUptoRow : OpenClaim := { program := "ytkehggbmpdacpaagreatdoor", sum := "433a4cec065a038a6158ab28669781532a2b7730e92477821562543cd3e71d93", func := "pub-quirehand/laws.FnBuilt", spec := "fnBuilt", unfollowed := true, recurses := true, named := ["unicode/utf8.first", "unicode/utf8.acceptRanges", "bytes.asciiSpace", "unicode.White_Space", "unicode.properties", "unicode.Letter", "unicode.Digit", "bytes.ErrTooLarge"], apart := false, laid := [("unicode/utf8.acceptRanges", laid_unicode_utf8_acceptRanges), ("unicode.White_Space", laid_unicode_White_Space), ("unicode.properties", laid_unicode_properties), ("bytes.ErrTooLarge", laid_bytes_ErrTooLarge), ("bytes.asciiSpace", laid_bytes_asciiSpace), ("unicode.Digit", laid_unicode_Digit), ("unicode.Letter", laid_unicode_Letter), ("unicode/utf8.first", laid_unicode_utf8_first)], narrowed := true }
def FnBuiltUptoSaid : Prop := fnBuiltUptoRow.holds Tryz.pinned (OpenSpec.upto fnBuiltSpec)

/-- 'laws.FnClosed', WHERE WHAT IT READS IS OF BULK AT MOST 1048576: true; the input reads as it did. -/
def fnClosedUptoRow : OpenClaim := { program := "ytkehggbmpdacpaagreatdoor", sum := "433a4cec065a038a6158ab28669781532a2b7730e92477821562543cd3e71d93", func := "pub-quirehand/laws.FnClosed", spec := "fnClosed", unfollowed := true, recurses := true, named := ["unicode/utf8.first", "unicode/utf8.acceptRanges", "bytes.asciiSpace", "unicode.White_Space", "unicode.properties", "unicode.Letter", "unicode.Digit", "bytes.ErrTooLarge"], apart := false, laid := [("unicode/utf8.acceptRanges", laid_unicode_utf8_acceptRanges), ("unicode.White_Space", laid_unicode_White_Space), ("unicode.properties", laid_unicode_properties), ("bytes.ErrTooLarge", laid_bytes_ErrTooLarge), ("bytes.asciiSpace", laid_bytes_asciiSpace), ("unicode.Digit", laid_unicode_Digit), ("unicode.Letter", laid_unicode_Letter), ("unicode/utf8.first", laid_unicode_utf8_first)], narrowed := true }
def FnClosedUptoSaid : Prop := fnClosedUptoRow.holds Tryz.pinned (OpenSpec.upto fnClosedSpec)

/-- 'laws.FnClosedBehind', WHERE WHAT IT READS IS OF BULK AT MOST 1048576: true; the input reads as it did. -/
def fnClosedBehindUptoRow : OpenClaim := { program := "ytkehggbmpdacpaagreatdoor", sum := "433a4cec065a038a6158ab28669781532a2b7730e92477821562543cd3e71d93", func := "pub-quirehand/laws.FnClosedBehind", spec := "fnClosedBehind", unfollowed := true, recurses := true, named := ["unicode/utf8.first", "unicode/utf8.acceptRanges", "bytes.asciiSpace", "unicode.White_Space", "unicode.properties", "unicode.Letter", "unicode.Digit", "bytes.ErrTooLarge"], apart := false, laid := [("unicode/utf8.acceptRanges", laid_unicode_utf8_acceptRanges), ("unicode.White_Space", laid_unicode_White_Space), ("unicode.properties", laid_unicode_properties), ("bytes.ErrTooLarge", laid_bytes_ErrTooLarge), ("bytes.asciiSpace", laid_bytes_asciiSpace), ("unicode.Digit", laid_unicode_Digit), ("unicode.Letter", laid_unicode_Letter), ("unicode/utf8.first", laid_unicode_utf8_first)], narrowed := true }
def FnClosedBehindUptoSaid : Prop := fnClosedBehindUptoRow.holds Tryz.pinned (OpenSpec.upto fnClosedBehindSpec)

/-- 'laws.FnClosedUnopened', WHERE WHAT IT READS IS OF BULK AT MOST 1048576: true; the input reads as it did. -/
def fnClosedUnopenedUptoRow : OpenClaim := { program := "ytkehggbmpdacpaagreatdoor", sum := "433a4cec065a038a6158ab28669781532a2b7730e92477821562543cd3e71d93", func := "pub-quirehand/laws.FnClosedUnopened", spec := "fnClosedUnopened", unfollowed := true, recurses := true, named := ["unicode/utf8.first", "unicode/utf8.acceptRanges", "bytes.asciiSpace", "unicode.White_Space", "unicode.properties", "unicode.Letter", "unicode.Digit", "bytes.ErrTooLarge"], apart := false, laid := [("unicode/utf8.acceptRanges", laid_unicode_utf8_acceptRanges), ("unicode.White_Space", laid_unicode_White_Space), ("unicode.properties", laid_unicode_properties), ("bytes.ErrTooLarge", laid_bytes_ErrTooLarge), ("bytes.asciiSpace", laid_bytes_asciiSpace), ("unicode.Digit", laid_unicode_Digit), ("unicode.Letter", laid_unicode_Letter), ("unicode/utf8.first", laid_unicode_utf8_first)], narrowed := true }
def FnClosedUnopenedUptoSaid : Prop := fnClosedUnopenedUptoRow.holds Tryz.pinned (OpenSpec.upto fnClosedUnopenedSpec)

/-- 'laws.FnComment', WHERE WHAT IT READS IS OF BULK AT MOST 1048576: true; the input reads as it did. -/
def fnCommentUptoRow : OpenClaim := { program := "ytkehggbmpdacpaagreatdoor", sum := "433a4cec065a038a6158ab28669781532a2b7730e92477821562543cd3e71d93", func := "pub-quirehand/laws.FnComment", spec := "fnComment", unfollowed := true, recurses := true, named := ["unicode/utf8.first", "unicode/utf8.acceptRanges", "bytes.asciiSpace", "unicode.White_Space", "unicode.properties", "unicode.Letter", "unicode.Digit", "bytes.ErrTooLarge"], apart := false, laid := [("unicode/utf8.acceptRanges", laid_unicode_utf8_acceptRanges), ("unicode.White_Space", laid_unicode_White_Space), ("unicode.properties", laid_unicode_properties), ("bytes.ErrTooLarge", laid_bytes_ErrTooLarge), ("bytes.asciiSpace", laid_bytes_asciiSpace), ("unicode.Digit", laid_unicode_Digit), ("unicode.Letter", laid_unicode_Letter), ("unicode/utf8.first", laid_unicode_utf8_first)], narrowed := true }
def FnCommentUptoSaid : Prop := fnCommentUptoRow.holds Tryz.pinned (OpenSpec.upto fnCommentSpec)

/-- 'laws.FnCommentUnended', WHERE WHAT IT READS IS OF BULK AT MOST 1048576: true; the input reads as it did. -/
def fnCommentUnendedUptoRow : OpenClaim := { program := "ytkehggbmpdacpaagreatdoor", sum := "433a4cec065a038a6158ab28669781532a2b7730e92477821562543cd3e71d93", func := "pub-quirehand/laws.FnCommentUnended", spec := "fnCommentUnended", unfollowed := true, recurses := true, named := ["unicode/utf8.first", "unicode/utf8.acceptRanges", "bytes.asciiSpace", "unicode.White_Space", "unicode.properties", "unicode.Letter", "unicode.Digit", "bytes.ErrTooLarge"], apart := false, laid := [("unicode/utf8.acceptRanges", laid_unicode_utf8_acceptRanges), ("unicode.White_Space", laid_unicode_White_Space), ("unicode.properties", laid_unicode_properties), ("bytes.ErrTooLarge", laid_bytes_ErrTooLarge), ("bytes.asciiSpace", laid_bytes_asciiSpace), ("unicode.Digit", laid_unicode_Digit), ("unicode.Letter", laid_unicode_Letter), ("unicode/utf8.first", laid_unicode_utf8_first)], narrowed := true }
def FnCommentUnendedUptoSaid : Prop := fnCommentUnendedUptoRow.holds Tryz.pinned (OpenSpec.upto fnCommentUnendedSpec)

/-- 'laws.FnDivider', WHERE WHAT IT READS IS OF BULK AT MOST 1048576: true; the input reads as it did. -/
def fnDividerUptoRow : OpenClaim := { program := "ytkehggbmpdacpaagreatdoor", sum := "433a4cec065a038a6158ab28669781532a2b7730e92477821562543cd3e71d93", func := "pub-quirehand/laws.FnDivider", spec := "fnDivider", unfollowed := true, recurses := true, named := ["unicode/utf8.first", "unicode/utf8.acceptRanges", "bytes.asciiSpace", "unicode.White_Space", "unicode.properties", "unicode.Letter", "unicode.Digit", "bytes.ErrTooLarge"], apart := false, laid := [("unicode/utf8.acceptRanges", laid_unicode_utf8_acceptRanges), ("unicode.White_Space", laid_unicode_White_Space), ("unicode.properties", laid_unicode_properties), ("bytes.ErrTooLarge", laid_bytes_ErrTooLarge), ("bytes.asciiSpace", laid_bytes_asciiSpace), ("unicode.Digit", laid_unicode_Digit), ("unicode.Letter", laid_unicode_Letter), ("unicode/utf8.first", laid_unicode_utf8_first)], narrowed := true }
def FnDividerUptoSaid : Prop := fnDividerUptoRow.holds Tryz.pinned (OpenSpec.upto fnDividerSpec)

end Rows
end Go.Proofs.YtkehggbmpdacpaaGreatDoor
