/- laws.delimiters: the left delimiter and the right one. -/
import Derived.Test.YtkehggbmpdacpabGreatDoorKp15
set_option maxRecDepth 100000
set_option linter.unusedVariables false
set_option linter.unusedSimpArgs false
set_option linter.unusedSectionVars false
namespace Go.Proofs.YtkehggbmpdacpabGreatDoor.Lw
open Go.Rx
open Go.RowKit Go.Proofs.YtkehggbmpdacpabGreatDoor.Dec0 Go.Proofs.YtkehggbmpdacpabGreatDoor.Txt0
theorem boDl : bodyB Tryz.prog 35 = true := by kernel_rfl
theorem delim_calls (md : Bool) (w : World) : Calls Tryz.prog 35 #[.bool md] w fun e w' => e = .returned (.tuple #[.string (Lex0.ba (Lex0.lf md)), .string (Lex0.ba (Lex0.rd md))]) ∧ Below w.heap.size w w' := by
  refine enter (fun _ => False) 5 [] Tryz.func35 rfl rfl rfl (vs := [.bool md]) (Has.nil _) ?_
  conv => arg 2; arg 2; whnf
  cases md
  · repeat' (first | refine cseq ?_ | refine rtext ?_ | refine cfalse rfl ?_ | refine cskip ?_ | refine cret ?_ | refine jnil ?_ | (first | refine jmv rfl rfl rfl ?_ | refine jas_ rfl rfl rfl ?_))
    exact ret2 rfl rfl rfl rfl (fun w' hw' => ⟨rfl, hw'.2.below (fun k _ h => h) (Nat.le_refl _)⟩)
  · repeat' (first | refine cseq ?_ | refine rtext ?_ | refine ctrue rfl ?_ | refine cret ?_ | refine tret ?_ | refine jnil ?_ | (first | refine jmv rfl rfl rfl ?_ | refine jas_ rfl rfl rfl ?_))
    exact ret2 rfl rfl rfl rfl (fun w' hw' => ⟨rfl, hw'.2.below (fun k _ h => h) (Nat.le_refl _)⟩)
theorem delim_in {X : Cx} {m : Mem} {md : Bool} : ∀ w, Cl X m w → Calls Tryz.prog 35 #[.bool md] w fun e w' => e = .returned (.tuple #[.string (Lex0.ba (Lex0.lf md)), .string (Lex0.ba (Lex0.rd md))]) ∧ Cl X m w' :=
  quietC fun w _ => delim_calls md w
end Go.Proofs.YtkehggbmpdacpabGreatDoor.Lw
