/- FnCommentUnended: its walk. -/
import Derived.Test.YtkehggbmpdacpaaGreatDoorLwDl
import Derived.Test.YtkehggbmpdacpaaGreatDoorLwPr
import Derived.Test.YtkehggbmpdacpaaGreatDoorPg63
import Derived.Test.YtkehggbmpdacpaaGreatDoorKp16
set_option maxRecDepth 100000
set_option linter.unusedVariables false
set_option linter.unusedSimpArgs false
set_option linter.unusedSectionVars false
namespace Go.Proofs.YtkehggbmpdacpaaGreatDoor.Pg
open Go.Rx hiding bt
open Go.RowKit Go.Proofs.YtkehggbmpdacpaaGreatDoor.Dec0 Go.Proofs.YtkehggbmpdacpaaGreatDoor.Lex0
set_option maxHeartbeats 2000000 in
theorem commentUnended_calls (md : Bool) (inner : ByteArray) (w : World) (hT : Tab w) (hs1 : inner.size ≤ 140737488351232) :
    Calls Tryz.prog 12 #[.bool md, .string inner] w fun e w' => e = .returned (.bool true) ∧ Below w.heap.size w w' := by
  refine enter (fun _ => False) 27 [] Tryz.func12 rfl rfl rfl (vs := [.bool md, .string inner]) (Has.nil _) ?_
  conv => arg 2; arg 2; whnf
  have hW : ∃ W, Bs W ⟨27, [], fun _ => False, w⟩ ∧ Tab W := ⟨w, ⟨Below.refl _ _, fun k h => h.elim⟩, hT⟩
  have post : ∀ (f : Fr) (m : Mem), Rx.look f 4 = some (.bool true) → PJ ⟨27, [], fun _ => False, w⟩ (bodyPost Tryz.prog Tryz.f12 (fun e w' => e = .returned (.bool true) ∧ Below w.heap.size w w') .ret) f m := fun f m hf =>
    ret1 rfl rfl hf (fun w' hw' => ⟨rfl, hw'.2.below (fun k _ h => h) (Nat.le_refl _)⟩)
  have herr0 : Lw.ProseF inner → Txt0.hasT [42] inner.data.toList = false → ∀ s : ByteArray, s.data.toList = lf md ++ 47 :: 42 :: inner.data.toList → asc s.data.toList ∧ Errs envT s.data.toList := by
    intro hp h1 s hs
    have hpa := hp.1.asc
    rw [hs]
    refine ⟨?_, err_comment tra_env md hpa (Lw.has_one h1)⟩
    repeat' (first | exact asc_lf _ | assumption | refine asc_app ?_ ?_ | refine asc_cons (by decide) ?_)
  repeat' (first | (show Jo _ (.call ⟨.value (.func 34), _, _⟩); have herr := herr0 hp (by assumption); first | (show Jo _ (.call ⟨.value (.func 34), _, _⟩); refine jcall0 (v := .bool true) [] bo34 rfl rfl rfl (errs_calls hW (by simp only [ByteArray.size_append, ba_lf_sz, ba_rd_sz, bz1, bz2, bz3]; omega) (herr _ (by simp [Txt0.app_list, ba_list])).1 (herr _ (by simp [Txt0.app_list, ba_list])).2) ?_)) | first | refine cseq ?_ | refine rtext ?_ | refine ctrue rfl ?_ | refine cfalse rfl ?_ | refine cskip ?_ | refine cret ?_ | refine tret ?_ | refine jnil ?_ | (first | refine js rfl rfl ?_ | refine jmv rfl rfl rfl ?_ | refine jas_ rfl rfl rfl ?_ | (show Jo _ (.binOp _ _ _ _ _); first | (show Jo _ (.binOp .gtr _ _ _ _); (refine jgtr rfl rfl rfl rfl (fun hq => ?_) (fun hq => ?_))) | (show Jo _ (.binOp .add 9 _ _ _); refine jy (ysadd rfl rfl (by simp only [ByteArray.size_append, ba_lf_sz, ba_rd_sz, bz1, bz2, bz3]; omega) rfl) rfl rfl ?_)) | (show Jo _ (.pick _ _ _); first | refine jy (ypick1 rfl rfl) rfl rfl ?_ | refine jy (ypick0 rfl rfl) rfl rfl ?_) | (show Jo _ (.unOp _ _ _); refine jy (ynot rfl rfl) rfl rfl ?_) | (show Jo _ (.call _); first | (show Jo _ (.call ⟨.builtin .len, _, #[9]⟩); refine jy (ylens rfl Lw.und9) rfl rfl ?_) | (show Jo _ (.call ⟨.value (.func 31), _, _⟩); refine jcall (ι := Bool) (v := fun b => .bool b) (m' := fun _ => _) (fun b => b = true → Lw.ProseF _) Lw.boPr rfl rfl rfl (Lw.prose_in (by omega)) (fun b hk => ?_); refine jcases (fun hp => ?_) (fun hp => ?_); try (replace hp := hk hp; have hpa := hp.1.asc; have hps := hp.2)) | (show Jo _ (.call ⟨.value (.func 14), _, _⟩); refine jcallq Lw.boHas rfl rfl rfl (Lw.has_in (by omega) (by decide)) ?_; refine jcases (fun hh => ?_) (fun hh => ?_)) | (show Jo _ (.call ⟨.value (.func 33), _, _⟩); refine jcallq Lw.boDl rfl rfl rfl Lw.delim_in ?_)) | (show Jo _ (.extract _ _); refine jy (yextractL rfl rfl) rfl rfl ?_)))
  all_goals exact post _ _ rfl
end Go.Proofs.YtkehggbmpdacpaaGreatDoor.Pg
namespace Go.Proofs.YtkehggbmpdacpaaGreatDoor.PFnCommentUnended
open Go.Rx Go.RowKit Go.Proofs.YtkehggbmpdacpaaGreatDoorW.PrintWords
theorem laws_FnCommentUnended.calls (a0 : Bool) (a1 : ByteArray) (ret_ : Bool) (w : World)  (h : ret_ = true ∧ a1.size ≤ 140737488351232 ∧ Pg.Tab w) :
    Calls Tryz.prog 12 #[.bool a0, .string a1] w fun e w' => e = .returned (.bool ret_) ∧ Below w.heap.size w w' := by
  obtain ⟨rfl, h1, hT⟩ := h
  exact Pg.commentUnended_calls a0 a1 w hT h1
end Go.Proofs.YtkehggbmpdacpaaGreatDoor.PFnCommentUnended
