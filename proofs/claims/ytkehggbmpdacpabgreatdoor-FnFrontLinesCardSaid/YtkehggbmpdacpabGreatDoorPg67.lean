/- Pages: two pages' items are the same. -/
import Derived.Test.YtkehggbmpdacpabGreatDoorPg64
import Derived.Test.YtkehggbmpdacpabGreatDoorPg65
import Derived.Test.YtkehggbmpdacpabGreatDoorKp16
set_option maxRecDepth 100000
set_option linter.unusedVariables false
set_option linter.unusedSimpArgs false
set_option linter.unusedSectionVars false
namespace Go.Proofs.YtkehggbmpdacpabGreatDoor.Pg
open Go.Rx hiding bt
open Go.RowKit Go.Proofs.YtkehggbmpdacpabGreatDoor.Dec0 Go.Proofs.YtkehggbmpdacpabGreatDoor.Lex0
theorem told_len (s : T) (fr dv : Bool) : (told s fr dv).length ≤ 24 * s.length + 24 := by
  have h2 := (parse_in s fr dv).2
  have h3 : (told s fr dv).length = (parse envT s fr dv).length := by unfold told; rw [List.length_map]
  rw [h3]
  omega
theorem same37B {w : World} {r1 r2 : Row} {l1 l2 : List Ti} {E : Mem} (h : Has (r2.mem (l2.flatMap tiC) 59 ++ (r1.mem (l1.flatMap tiC) 59 ++ E)) w) (h1 : r1.ok 0 5 l1.length (l1.flatMap tiC)) (h2 : r2.ok 0 5 l2.length (l2.flatMap tiC)) (heq : l1 = l2) (hl : l2.length ≤ 1000000000000) :
    Calls Tryz.prog 32 #[r1.val l1.length, r2.val l2.length] w fun e w' => e = .returned (.bool true) ∧ Below w.heap.size w w' := by
  subst heq
  exact same37_calls (tis_of (h.sub ((List.sublist_append_left _ E).trans (List.sublist_append_right _ _))) h1) (tis_of (h.sub (List.sublist_append_left _ _)) h2) hl
end Go.Proofs.YtkehggbmpdacpabGreatDoor.Pg
