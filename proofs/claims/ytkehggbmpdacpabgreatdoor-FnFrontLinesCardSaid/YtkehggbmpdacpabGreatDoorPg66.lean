/- Pages: the page of one letter. -/
import Derived.Test.YtkehggbmpdacpabGreatDoorPg65
set_option maxRecDepth 100000
set_option linter.unusedVariables false
set_option linter.unusedSimpArgs false
set_option linter.unusedSectionVars false
namespace Go.Proofs.YtkehggbmpdacpabGreatDoor.Pg
open Go.Rx hiding bt
open Go.RowKit Go.Proofs.YtkehggbmpdacpabGreatDoor.Dec0 Go.Proofs.YtkehggbmpdacpabGreatDoor.Lex0
theorem boPages : bodyB Tryz.prog 25 = true := by kernel_rfl
theorem one_told : ∃ t0 t1 : Ti, told [97] false false = [t0, t1] ∧ t0.text = [97] ∧ t1.ty = 1 := by
  refine ⟨toldI envT [97] (mk 18 0 1), toldI envT [97] (mk 1 1 1), ?_, rfl, rfl⟩
  unfold told
  rw [text_parse (by simp)]
  rfl
set_option maxHeartbeats 1000000 in
theorem pages_calls {X : Cx} {m : Mem} (hW : ∃ W, Bs W X ∧ Tab W) : ∀ w, Cl X m w → Calls Tryz.prog 25 #[] w fun e w' => e = .returned (.bool true) ∧ Cl X m w' := by
  intro w hw
  refine enterC 20 hw Tryz.func25 rfl rfl (vs := []) rfl ?_
  replace hW : ∃ W, Bs W (X.sub 20 w) ∧ Tab W := by obtain ⟨W, h1, h2⟩ := hW; exact ⟨W, h1.sub hw 20, h2⟩
  conv => arg 2; arg 2; whnf
  repeat' ((fail_if_success (show PJ _ (Code.wp _ (Code.seq (Code.region 2 _ _) _) _) _ _)); first | first | refine cseq ?_ | refine rtext ?_ | refine jnil ?_ | (first | refine jas_ rfl rfl rfl ?_ | (show Jo _ (.call _); ((show Jo _ (.call ⟨.value (.func 28), _, _⟩); refine jcall (ι := Row) (v := fun r' => r'.val (told [97] false false).length) (m' := fun r' => r'.mem ((told [97] false false).flatMap tiC) 59 ++ m) (fun r' => r'.ok 0 5 (told [97] false false).length ((told [97] false false).flatMap tiC)) bo16 rfl rfl rfl (parseB hW [97] false false (by decide)) (fun r1 h1 => ?_))))))
  obtain ⟨⟨y0, p0, x0, f0, i0⟩, ⟨y1, p1, x1, f1, i1⟩, e, e0, e1⟩ := one_told
  dsimp only at e0 e1
  subst e0
  subst e1
  rw [e] at h1 ⊢
  cases r1 with
  | nil => have := h1.1; simp at this
  | «at» g1 cap rr =>
    repeat' (first | refine cseq ?_ | refine rtext ?_ | refine cret ?_ | refine jnil ?_ | (first | refine js rfl rfl ?_ | refine jmv rfl rfl rfl ?_ | (show Jo _ (.fieldAddr _ _ _); refine jy (yfield rfl (by first | exact fb42_0 | exact fb42_2) rfl) rfl rfl ?_) | (show Jo _ (.load _ _); refine jy (yload (i := 0) rfl rfl rfl one3) rfl rfl ?_) | refine jas_ rfl rfl rfl ?_ | (show Jo _ (.binOp _ _ _ _ _); first | (show Jo _ (.binOp .eql 9 _ _ _); refine jy (yseql (c := true) rfl rfl (decide_eq_true rfl)) rfl rfl ?_) | refine jeql rfl rfl rfl rfl (fun hq => ?_) (fun hq => ?_)) | (show Jo _ (.pick _ _ _); first | refine jy (ypick1 rfl rfl) rfl rfl ?_ | refine jy (ypick0 rfl rfl) rfl rfl ?_) | (show Jo _ (.call _); ((show Jo _ (.call ⟨.builtin .len, _, _⟩); refine jy (ylenl rfl und24) rfl rfl ?_))) | (show Jo (some 8) (.indexAddr _ _ _); refine jy (yat (p' := ⟨g1, 0, none⟩) rfl rfl und24 sz42 (by omega) (by omega) rfl) rfl rfl ?_) | (show Jo (some 15) (.indexAddr _ _ _); refine jy (yat (p' := ⟨g1, 5, none⟩) rfl rfl und24 sz42 (by omega) (by omega) rfl) rfl rfl ?_)))
    all_goals first
      | exact absurd rfl hq
      | exact ret1 rfl rfl rfl (fun w' hw' => ⟨rfl, (hw.up hw').less (List.sublist_append_right _ _)⟩)
end Go.Proofs.YtkehggbmpdacpabGreatDoor.Pg
