/- The laws of shortcodes in plain words: closing ones, inline ones, comments, indentations, two dividers. No program. -/
import Derived.Test.YtkehggbmpdacpabGreatDoorKp15
set_option maxRecDepth 100000
set_option linter.unusedVariables false
set_option linter.unusedSimpArgs false
set_option linter.unusedSectionVars false
namespace Go.Proofs.YtkehggbmpdacpabGreatDoor.Lex0
open Go.Proofs.YtkehggbmpdacpabGreatDoor.Dec0 Go.Proofs.YtkehggbmpdacpabGreatDoor.Txt0
structure ProseT (u : T) : Prop where
  asc : asc u
  q : ∀ c ∈ u, c ≠ 123 ∧ c ≠ 60
  last : ∃ d, u.getLast? = some d ∧ isBl d = false
section
variable {E : Env} {s : T} {dv : Bool} {b : Book} {c : Ctl}
end
section
variable {E : Env} (hE : EA E) (hT : TrA E) (dv md : Bool) {w : T} (hw : NameT w)
include hE hT hw
end
section
variable {E : Env} {s : T} {dv : Bool}
end
structure TrI (E : Env) : Prop where
  solid : ∀ t, asc t → (∀ c, t.head? = some c → isSp c.toNat = false) → (∀ c, t.getLast? = some c → isSp c.toNat = false) → E.tr t = t
section
variable {E : Env} {s : T} {dv : Bool} {b : Book} {c : Ctl}
end
section
variable {E : Env} {s : T} {dv : Bool} {b : Book} {c : Ctl}
end
end Go.Proofs.YtkehggbmpdacpabGreatDoor.Lex0
