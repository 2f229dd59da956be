/- FnInlineOther: its walk. -/
import Derived.Test.YtkehggbmpdacpabGreatDoorLwDl
import Derived.Test.YtkehggbmpdacpabGreatDoorLwPr
import Derived.Test.YtkehggbmpdacpabGreatDoorPg70
import Derived.Test.YtkehggbmpdacpabGreatDoorPl5
import Derived.Test.YtkehggbmpdacpabGreatDoorKp16
set_option maxRecDepth 100000
set_option linter.unusedVariables false
set_option linter.unusedSimpArgs false
set_option linter.unusedSectionVars false
namespace Go.Proofs.YtkehggbmpdacpabGreatDoor.Pg
open Go.Rx hiding bt
open Go.RowKit Go.Proofs.YtkehggbmpdacpabGreatDoor.Dec0 Go.Proofs.YtkehggbmpdacpabGreatDoor.Lex0
theorem bz8i : (⟨#[46, 105, 110, 108, 105, 110, 101, 32]⟩ : ByteArray).size = 8 := rfl
set_option maxHeartbeats 2000000 in
theorem inlineOther_calls (md : Bool) (name other inner : ByteArray) (w : World) (hT : Tab w) (hs0 : name.size ≤ 140737488351232) (hs1 : other.size ≤ 140737488351232) (hs2 : inner.size ≤ 140737488351232) :
    Calls Tryz.prog 8 #[.bool md, .string name, .string other, .string inner] w fun e w' => e = .returned (.bool true) ∧ Below w.heap.size w w' := by
  refine enter (fun _ => False) 69 [] Tryz.func8 rfl rfl rfl (vs := [.bool md, .string name, .string other, .string inner]) (Has.nil _) ?_
  conv => arg 2; arg 2; whnf
  have hW : ∃ W, Bs W ⟨69, [], fun _ => False, w⟩ ∧ Tab W := ⟨w, ⟨Below.refl _ _, fun k h => h.elim⟩, hT⟩
  have post : ∀ (f : Fr) (m : Mem), Rx.look f 8 = some (.bool true) → PJ ⟨69, [], fun _ => False, w⟩ (bodyPost Tryz.prog Tryz.f8 (fun e w' => e = .returned (.bool true) ∧ Below w.heap.size w w') .ret) f m := fun f m hf =>
    ret1 rfl rfl hf (fun w' hw' => ⟨rfl, hw'.2.below (fun k _ h => h) (Nat.le_refl _)⟩)
  repeat' ((fail_if_success (show PJ _ (Code.wp _ (Code.seq (Code.region 5 _ _) _) _) _ _)); first | first | refine cseq ?_ | refine rtext ?_ | refine ctrue rfl ?_ | refine cfalse rfl ?_ | refine cskip ?_ | refine cret ?_ | refine tret ?_ | refine jnil ?_ | (first | refine js rfl rfl ?_ | refine jmv rfl rfl rfl ?_ | refine jas_ rfl rfl rfl ?_ | (show Jo _ (.binOp _ _ _ _ _); ((show Jo _ (.binOp .gtr _ _ _ _); refine jgtr rfl rfl rfl rfl (fun hq => ?_) (fun hq => ?_)))) | (show Jo _ (.pick _ _ _); first | refine jy (ypick1 rfl rfl) rfl rfl ?_ | refine jy (ypick0 rfl rfl) rfl rfl ?_) | refine jy (ynot rfl rfl) rfl rfl ?_ | (show Jo _ (.call _); first | (show Jo _ (.call ⟨.builtin .len, _, #[9]⟩); refine jy (ylens rfl Lw.und9) rfl rfl ?_) | (show Jo (some 26) (.call ⟨.value (.func 15), _, _⟩); refine jcall (ι := Bool) (v := fun b => .bool b) (m' := fun _ => _) (fun b => b = true → Lw.NameF name) Lw.boNm rfl rfl rfl (Lw.named_in (by omega)) (fun b hk => ?_); refine jcases (fun hb => ?_) (fun hb => ?_); try (replace hb := hk hb; have hns := hb.2)) | (show Jo (some 30) (.call ⟨.value (.func 15), _, _⟩); refine jcall (ι := Bool) (v := fun b => .bool b) (m' := fun _ => _) (fun b => b = true → Lw.NameF other) Lw.boNm rfl rfl rfl (Lw.named_in (by omega)) (fun b hk => ?_); refine jcases (fun ho => ?_) (fun ho => ?_); try (replace ho := hk ho; have hos := ho.2)) | (show Jo _ (.call ⟨.value (.func 33), _, _⟩); refine jcall (ι := Bool) (v := fun b => .bool b) (m' := fun _ => _) (fun b => b = true → Lw.ProseF _) Lw.boPr rfl rfl rfl (Lw.prose_in (by omega)) (fun b hk => ?_); refine jcases (fun hp => ?_) (fun hp => ?_); try (replace hp := hk hp; have hpa := hp.1.asc; have hps := hp.2)))))
  all_goals first | exact post _ _ rfl | skip
  obtain ⟨S, hS⟩ : ∃ S, ba (lf md) ++ ⟨#[32]⟩ ++ name ++ ⟨#[46, 105, 110, 108, 105, 110, 101, 32]⟩ ++ ba (rd md) ++ inner ++ ba (lf md) ++ ⟨#[32]⟩ ++ other ++ ⟨#[32]⟩ ++ ba (rd md) = S := ⟨_, rfl⟩
  have hSs : S.size ≤ 70000 := by rw [← hS]; simp only [ByteArray.size_append, ba_lf_sz, ba_rd_sz, bz1, bz8i]; omega
  have hSl := Txt0.size_list S
  have hSd : S.data.toList = lf md ++ 32 :: ((name.data.toList ++ dotInl) ++ 32 :: (rd md ++ (inner.data.toList ++ (lf md ++ 32 :: (other.data.toList ++ (32 :: rd md)))))) := by
    rw [← hS]
    simp [Txt0.app_list, ba_list, dotInl]
  obtain ⟨t, ht, ht0⟩ : ∃ t ∈ told S.data.toList false true, t.ty = 0 := law_inlineOther ea_env.neg ea_env tra_env true md hb.1 ho.1 hp.1 hSd
  have hwl : wholeT (told S.data.toList false true) = false := by
    obtain ⟨j, hj, e⟩ := List.getElem_of_mem ht
    exact wholeT_no (j := j) (x := t) (by rw [List.getElem?_eq_getElem hj, e]) ht0
  have hnz : 0 < (told S.data.toList false true).length := List.length_pos_of_mem ht
  have hnl := told_len S.data.toList false true
  replace hnl : (told S.data.toList false true).length ≤ 1000000000 := by omega
  repeat' ((fail_if_success (show PJ _ (Code.wp _ (Code.seq (Code.region 7 _ _) _) _) _ _)); first | first | refine cseq ?_ | refine rtext ?_ | refine jnil ?_ | (first | refine jmv rfl rfl rfl ?_ | refine jas_ rfl rfl rfl ?_ | (show Jo _ (.binOp _ _ _ _ _); first | (show Jo (some 59) (.binOp .add 9 _ _ _); refine jy (ysadd (c := S) rfl rfl (by simp only [ByteArray.size_append, ba_lf_sz, ba_rd_sz, bz1, bz8i]; omega) hS) rfl rfl ?_) | (show Jo _ (.binOp .add 9 _ _ _); refine jy (ysadd rfl rfl (by simp only [ByteArray.size_append, ba_lf_sz, ba_rd_sz, bz1, bz8i]; omega) rfl) rfl rfl ?_)) | (show Jo _ (.call _); first | (show Jo _ (.call ⟨.value (.func 28), _, _⟩); refine jcall (ι := Row) (v := fun r' => r'.val (told S.data.toList false true).length) (m' := fun r' => r'.mem ((told S.data.toList false true).flatMap tiC) 59 ++ []) (fun r' => r'.ok 0 5 (told S.data.toList false true).length ((told S.data.toList false true).flatMap tiC)) bo16 rfl rfl rfl (parseB hW S.data.toList false true (by omega)) (fun r1 h1 => ?_)) | (show Jo _ (.call ⟨.value (.func 35), _, _⟩); refine jcallq Lw.boDl rfl rfl rfl Lw.delim_in ?_)) | (show Jo _ (.extract _ _); refine jy (yextractL rfl rfl) rfl rfl ?_)))
  obtain ⟨A1, c1, e1, q1, k1⟩ := row_tis h1
  rw [e1]
  repeat' (first | refine cseq ?_ | refine rtext ?_ | refine cret ?_ | refine jnil ?_ | (first | refine jmv rfl rfl rfl ?_ | refine jas_ rfl rfl rfl ?_ | (show Jo _ (.binOp _ _ _ _ _); ((show Jo _ (.binOp .gtr _ _ _ _); refine jy (ygtr rfl rfl (by (exact decide_eq_true (by omega)))) rfl rfl ?_))) | (show Jo _ (.pick _ _ _); refine jy (ypick1 rfl rfl) rfl rfl ?_) | refine jy (ynot rfl rfl) rfl rfl ?_ | (show Jo _ (.call _); first | (show Jo _ (.call ⟨.builtin .len, _, _⟩); refine jy (ylenl rfl und24) rfl rfl ?_) | (show Jo _ (.call ⟨.value (.func 29), _, _⟩); refine jcallq (v := .bool _) bo17 rfl rfl rfl (quietC fun w' hw' => wholeE (k1 w' (hw'.1.sub (List.sublist_append_left _ _))) hnl hwl) ?_))))
  all_goals exact post _ _ rfl
end Go.Proofs.YtkehggbmpdacpabGreatDoor.Pg
namespace Go.Proofs.YtkehggbmpdacpabGreatDoor.PFnInlineOther
open Go.Rx Go.RowKit Go.Proofs.YtkehggbmpdacpabGreatDoorW.PrintWords
theorem laws_FnInlineOther.calls (a0 : Bool) (a1 : ByteArray) (a2 : ByteArray) (a3 : ByteArray) (ret_ : Bool) (w : World)  (h : ret_ = true ∧ a1.size ≤ 140737488351232 ∧ a2.size ≤ 140737488351232 ∧ a3.size ≤ 140737488351232 ∧ Pg.Tab w) :
    Calls Tryz.prog 8 #[.bool a0, .string a1, .string a2, .string a3] w fun e w' => e = .returned (.bool ret_) ∧ Below w.heap.size w w' := by
  obtain ⟨rfl, h1, h2, h3, hT⟩ := h
  exact Pg.inlineOther_calls a0 a1 a2 a3 w hT h1 h2 h3
end Go.Proofs.YtkehggbmpdacpabGreatDoor.PFnInlineOther
