/- FnPointed: its walk. -/
import Derived.Test.YtkehggbmpdacpacGreatDoorLwDl
import Derived.Test.YtkehggbmpdacpacGreatDoorLwBg
import Derived.Test.YtkehggbmpdacpacGreatDoorPg63
import Derived.Test.YtkehggbmpdacpacGreatDoorKp15
set_option maxRecDepth 100000
set_option linter.unusedVariables false
set_option linter.unusedSimpArgs false
set_option linter.unusedSectionVars false
namespace Go.Proofs.YtkehggbmpdacpacGreatDoor.Pg
open Go.Rx hiding bt
open Go.RowKit Go.Proofs.YtkehggbmpdacpacGreatDoor.Dec0 Go.Proofs.YtkehggbmpdacpacGreatDoor.Lex0
theorem inl_no {o r : T} (h : ([105, 110, 108, 105, 110, 101] : T).isPrefixOf o = false) : inlT.isPrefixOf (o ++ 32 :: r) = false := by
  rcases o with _ | ⟨a, _ | ⟨b, _ | ⟨c, _ | ⟨d, _ | ⟨e, _ | ⟨f, o⟩⟩⟩⟩⟩⟩ <;> simp_all [inlT, List.isPrefixOf]
set_option maxHeartbeats 2000000 in
theorem pointed_calls (md : Bool) (name other : ByteArray) (w : World) (hT : Tab w) (hs0 : name.size ≤ 140737488351232) (hs1 : other.size ≤ 140737488351232) :
    Calls Tryz.prog 6 #[.bool md, .string name, .string other] w fun e w' => e = .returned (.bool true) ∧ Below w.heap.size w w' := by
  refine enter (fun _ => False) 45 [] Tryz.func6 rfl rfl rfl (vs := [.bool md, .string name, .string other]) (Has.nil _) ?_
  conv => arg 2; arg 2; whnf
  have hW : ∃ W, Bs W ⟨45, [], fun _ => False, w⟩ ∧ Tab W := ⟨w, ⟨Below.refl _ _, fun k h => h.elim⟩, hT⟩
  have post : ∀ (f : Fr) (m : Mem), Rx.look f 6 = some (.bool true) → PJ ⟨45, [], fun _ => False, w⟩ (bodyPost Tryz.prog Tryz.f6 (fun e w' => e = .returned (.bool true) ∧ Below w.heap.size w w') .ret) f m := fun f m hf =>
    ret1 rfl rfl hf (fun w' hw' => ⟨rfl, hw'.2.below (fun k _ h => h) (Nat.le_refl _)⟩)
  have herr0 : Lw.NameF name → Lw.NameF other → ((decide (0 + (⟨#[105, 110, 108, 105, 110, 101]⟩ : ByteArray).size ≤ other.size) && (⟨#[105, 110, 108, 105, 110, 101]⟩ : ByteArray).data.toList.isPrefixOf (other.data.toList.drop 0)) = false) → ∀ s : ByteArray, s.data.toList = lf md ++ 32 :: (name.data.toList ++ 46 :: (other.data.toList ++ 32 :: rd md)) → asc s.data.toList ∧ Errs envT s.data.toList := by
    intro hb ho hg s hs
    have hna := hb.1.asc
    have hoa := ho.1.asc
    rw [hs]
    have hp : ([105, 110, 108, 105, 110, 101] : T).isPrefixOf other.data.toList = false := by
      cases h : ([105, 110, 108, 105, 110, 101] : T).isPrefixOf other.data.toList
      · rfl
      · have h6 := Lw.pre_size (s := other) (x := ⟨#[105, 110, 108, 105, 110, 101]⟩) (i := 0) (by rw [List.drop_zero]; exact h) (Nat.zero_le _)
        rw [decide_eq_true h6, List.drop_zero, Bool.true_and] at hg
        exact absurd (h.symm.trans hg) (by decide)
    refine ⟨?_, err_point ea_env tra_env md hb.1 hoa (inl_no hp) ?_⟩
    all_goals repeat' (first | exact asc_lf _ | exact asc_rd _ | assumption | refine asc_app ?_ ?_ | refine asc_cons (by decide) ?_)
  repeat' (first | (show Jo _ (.call ⟨.value (.func 28), _, _⟩); have herr := herr0 hb ho hg; first | (show Jo _ (.call ⟨.value (.func 28), _, _⟩); refine jcall0 (v := .bool true) [] bo34 rfl rfl rfl (errs_calls hW (by simp only [ByteArray.size_append, ba_lf_sz, ba_rd_sz, bz1, bz2, bz3]; omega) (herr _ (by simp [Txt0.app_list, ba_list])).1 (herr _ (by simp [Txt0.app_list, ba_list])).2) ?_)) | first | refine cseq ?_ | refine rtext ?_ | refine ctrue rfl ?_ | refine cfalse rfl ?_ | refine cskip ?_ | refine cret ?_ | refine tret ?_ | refine jnil ?_ | (first | refine js rfl rfl ?_ | refine jmv rfl rfl rfl ?_ | refine jas_ rfl rfl rfl ?_ | (show Jo _ (.binOp _ _ _ _ _); first | (show Jo _ (.binOp .gtr _ _ _ _); refine jgtr rfl rfl rfl rfl (fun hq => ?_) (fun hq => ?_)) | (show Jo _ (.binOp .add 9 _ _ _); refine jy (ysadd rfl rfl (by simp only [ByteArray.size_append, ba_lf_sz, ba_rd_sz, bz1, bz2, bz3]; omega) rfl) rfl rfl ?_)) | (show Jo _ (.pick _ _ _); first | refine jy (ypick1 rfl rfl) rfl rfl ?_ | refine jy (ypick0 rfl rfl) rfl rfl ?_) | refine jy (ynot rfl rfl) rfl rfl ?_ | (show Jo _ (.call _); first | (show Jo _ (.call ⟨.builtin .len, _, #[9]⟩); refine jy (ylens rfl Lw.und9) rfl rfl ?_) | (show Jo (some 18) (.call ⟨.value (.func 26), _, _⟩); refine jcall (ι := Bool) (v := fun b => .bool b) (m' := fun _ => _) (fun b => b = true → Lw.NameF _) Lw.boNm rfl rfl rfl (Lw.named_in (by omega)) (fun b hk => ?_); refine jcases (fun hb => ?_) (fun hb => ?_); try (replace hb := hk hb; have hns := hb.2)) | (show Jo (some 22) (.call ⟨.value (.func 26), _, _⟩); refine jcall (ι := Bool) (v := fun b => .bool b) (m' := fun _ => _) (fun b => b = true → Lw.NameF _) Lw.boNm rfl rfl rfl (Lw.named_in (by omega)) (fun b hk => ?_); refine jcases (fun ho => ?_) (fun ho => ?_); try (replace ho := hk ho; have hos := ho.2)) | (show Jo _ (.call ⟨.value (.func 22), _, _⟩); refine jcallq (vs := [.string other, .int .i64 ((0 : Nat) : Int), .string ⟨#[105, 110, 108, 105, 110, 101]⟩]) Lw.boBg rfl rfl rfl (Lw.begins_in (by omega) (by omega) (by decide)) ?_; refine jcases (fun hg => ?_) (fun hg => ?_)) | (show Jo _ (.call ⟨.value (.func 27), _, _⟩); refine jcallq Lw.boDl rfl rfl rfl Lw.delim_in ?_)) | (show Jo _ (.extract _ _); refine jy (yextractL rfl rfl) rfl rfl ?_)))
  all_goals exact post _ _ rfl
end Go.Proofs.YtkehggbmpdacpacGreatDoor.Pg
namespace Go.Proofs.YtkehggbmpdacpacGreatDoor.PFnPointed
open Go.Rx Go.RowKit Go.Proofs.YtkehggbmpdacpacGreatDoorW.PrintWords
theorem laws_FnPointed.calls (a0 : Bool) (a1 : ByteArray) (a2 : ByteArray) (ret_ : Bool) (w : World)  (h : ret_ = true ∧ a1.size ≤ 140737488351232 ∧ a2.size ≤ 140737488351232 ∧ Pg.Tab w) :
    Calls Tryz.prog 6 #[.bool a0, .string a1, .string a2] w fun e w' => e = .returned (.bool ret_) ∧ Below w.heap.size w w' := by
  obtain ⟨rfl, h1, h2, hT⟩ := h
  exact Pg.pointed_calls a0 a1 a2 w hT h1 h2
end Go.Proofs.YtkehggbmpdacpacGreatDoor.PFnPointed
