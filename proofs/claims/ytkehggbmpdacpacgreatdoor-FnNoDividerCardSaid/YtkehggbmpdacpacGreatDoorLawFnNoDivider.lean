/- FnNoDivider: its walk. -/
import Derived.Test.YtkehggbmpdacpacGreatDoorPg66
import Derived.Test.YtkehggbmpdacpacGreatDoorPg67
import Derived.Test.YtkehggbmpdacpacGreatDoorKp15
set_option maxRecDepth 100000
set_option linter.unusedVariables false
set_option linter.unusedSimpArgs false
set_option linter.unusedSectionVars false
namespace Go.Proofs.YtkehggbmpdacpacGreatDoor.Pg
open Go.Rx hiding bt
open Go.RowKit Go.Proofs.YtkehggbmpdacpacGreatDoor.Dec0 Go.Proofs.YtkehggbmpdacpacGreatDoor.Lex0
theorem noDiv_told {s : T} (h0 : Txt0.hasT [60, 33, 45, 45, 109, 111, 114, 101, 45, 45, 62] s = false) (h1 : Txt0.hasT [35, 32, 109, 111, 114, 101] s = false) (fr : Bool) : told s fr true = told s fr false := by
  have k : ∀ o : Bool, Txt0.hasT (divr o) s = false → idx (divr o) s = none := fun o h => by
    rw [idx_has (divr_ne o)] at h
    cases hi : idx (divr o) s with
    | none => rfl
    | some n => rw [hi] at h; cases h
  unfold told
  rw [law_noDivider (k false h0) (k true h1) ea_env.neg fr]
set_option maxHeartbeats 2000000 in
theorem noDivider_calls (s : ByteArray) (fr : Bool) (w : World) (hT : Tab w) (hs0 : s.size ≤ 140737488351232) :
    Calls Tryz.prog 3 #[.string s, .bool fr] w fun e w' => e = .returned (.bool true) ∧ Below w.heap.size w w' := by
  refine enter (fun _ => False) 28 [] Tryz.func3 rfl rfl rfl (vs := [.string s, .bool fr]) (Has.nil _) ?_
  conv => arg 2; arg 2; whnf
  have hW : ∃ W, Bs W ⟨28, [], fun _ => False, w⟩ ∧ Tab W := ⟨w, ⟨Below.refl _ _, fun k h => h.elim⟩, hT⟩
  have post : ∀ (f : Fr) (m : Mem), Rx.look f 4 = some (.bool true) → PJ ⟨28, [], fun _ => False, w⟩ (bodyPost Tryz.prog Tryz.f3 (fun e w' => e = .returned (.bool true) ∧ Below w.heap.size w w') .ret) f m := fun f m hf =>
    ret1 rfl rfl hf (fun w' hw' => ⟨rfl, hw'.2.below (fun k _ h => h) (Nat.le_refl _)⟩)
  have hsz := Txt0.size_list s
  have hln0 : s.size ≤ 65536 → (told s.data.toList fr false).length ≤ 1000000000000 := fun h => by have := told_len s.data.toList fr false; omega
  repeat' (first | refine cseq ?_ | refine rtext ?_ | refine ctrue rfl ?_ | refine cfalse rfl ?_ | refine cskip ?_ | refine cret ?_ | refine tret ?_ | refine jnil ?_ | (first | refine js rfl rfl ?_ | refine jmv rfl rfl rfl ?_ | refine jas_ rfl rfl rfl ?_ | (show Jo _ (.binOp _ _ _ _ _); ((show Jo _ (.binOp .gtr _ _ _ _); refine jgtr rfl rfl rfl rfl (fun hq => ?_) (fun hq => ?_)))) | (show Jo _ (.pick _ _ _); first | refine jy (ypick1 rfl rfl) rfl rfl ?_ | refine jy (ypick0 rfl rfl) rfl rfl ?_) | refine jy (ynot rfl rfl) rfl rfl ?_ | (show Jo _ (.call _); first | (show Jo _ (.call ⟨.builtin .len, _, #[9]⟩); refine jy (ylens rfl Lw.und9) rfl rfl ?_) | (show Jo _ (.call ⟨.value (.func 13), _, _⟩); refine jcallq (v := .bool true) boPages rfl rfl rfl (pages_calls hW) ?_) | (show Jo (some 15) (.call ⟨.value (.func 14), _, _⟩); refine jcallq Lw.boHas rfl rfl rfl (Lw.has_in (by omega) (by decide)) ?_; refine jcases (fun hd0 => ?_) (fun hd0 => ?_)) | (show Jo (some 19) (.call ⟨.value (.func 14), _, _⟩); refine jcallq Lw.boHas rfl rfl rfl (Lw.has_in (by omega) (by decide)) ?_; refine jcases (fun hd1 => ?_) (fun hd1 => ?_)) | (show Jo (some 23) (.call ⟨.value (.func 16), _, _⟩); refine jcall (ι := Row) (v := fun r' => r'.val (told s.data.toList fr true).length) (m' := fun r' => r'.mem ((told s.data.toList fr true).flatMap tiC) 51 ++ []) (fun r' => r'.ok 0 5 (told s.data.toList fr true).length ((told s.data.toList fr true).flatMap tiC)) bo16 rfl rfl rfl (parseB hW s.data.toList fr true (by omega)) (fun r1 h1 => ?_)) | (show Jo (some 26) (.call ⟨.value (.func 16), _, _⟩); refine jcall (ι := Row) (v := fun r' => r'.val (told s.data.toList fr false).length) (m' := fun r' => r'.mem ((told s.data.toList fr false).flatMap tiC) 51 ++ (r1.mem ((told s.data.toList fr true).flatMap tiC) 51 ++ [])) (fun r' => r'.ok 0 5 (told s.data.toList fr false).length ((told s.data.toList fr false).flatMap tiC)) bo16 rfl rfl rfl (parseB hW s.data.toList fr false (by omega)) (fun r2 h2 => ?_)) | (show Jo _ (.call ⟨.value (.func 15), _, _⟩); refine jcallq (v := .bool true) bo37 rfl rfl rfl (quietC fun w' hw' => same37B hw'.1 h1 h2 (noDiv_told hd0 hd1 fr) (hln0 (by omega))) ?_))))
  all_goals exact post _ _ rfl
end Go.Proofs.YtkehggbmpdacpacGreatDoor.Pg
namespace Go.Proofs.YtkehggbmpdacpacGreatDoor.PFnNoDivider
open Go.Rx Go.RowKit Go.Proofs.YtkehggbmpdacpacGreatDoorW.PrintWords
theorem laws_FnNoDivider.calls (a0 : ByteArray) (a1 : Bool) (ret_ : Bool) (w : World)  (h : ret_ = true ∧ a0.size ≤ 140737488351232 ∧ Pg.Tab w) :
    Calls Tryz.prog 3 #[.string a0, .bool a1] w fun e w' => e = .returned (.bool ret_) ∧ Below w.heap.size w w' := by
  obtain ⟨rfl, h0, hT⟩ := h
  exact Pg.noDivider_calls a0 a1 w hT h0
end Go.Proofs.YtkehggbmpdacpacGreatDoor.PFnNoDivider
