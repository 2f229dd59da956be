/- FnComment: its walk. -/
import Derived.Test.YtkehggbmpdacpaaGreatDoorLwPr
import Derived.Test.YtkehggbmpdacpaaGreatDoorLwDl
import Derived.Test.YtkehggbmpdacpaaGreatDoorPl2
import Derived.Test.YtkehggbmpdacpaaGreatDoorKp16
set_option maxRecDepth 100000
set_option linter.unusedVariables false
set_option linter.unusedSimpArgs false
set_option linter.unusedSectionVars false
namespace Go.Proofs.YtkehggbmpdacpaaGreatDoor.Pg
open Go.Rx hiding bt
open Go.RowKit Go.Proofs.YtkehggbmpdacpaaGreatDoor.Dec0 Go.Proofs.YtkehggbmpdacpaaGreatDoor.Lex0
set_option maxHeartbeats 2000000 in
theorem comm_calls (md : Bool) (inner : ByteArray) (w : World) (hT : Tab w) (hs1 : inner.size ≤ 140737488351232) :
    Calls Tryz.prog 11 #[.bool md, .string inner] w fun e w' => e = .returned (.bool true) ∧ Below w.heap.size w w' := by
  refine enter (fun _ => False) 58 [] Tryz.func11 rfl rfl rfl (vs := [.bool md, .string inner]) (Has.nil _) ?_
  conv => arg 2; arg 2; whnf
  have hW : ∃ W, Bs W ⟨58, [], fun _ => False, w⟩ ∧ Tab W := ⟨w, ⟨Below.refl _ _, fun k h => h.elim⟩, hT⟩
  have hr := bk0 (X := ⟨58, [], fun _ => False, w⟩)
  have post : ∀ (f : Fr) (m : Mem), Rx.look f 4 = some (.bool true) → PJ ⟨58, [], fun _ => False, w⟩ (bodyPost Tryz.prog Tryz.f11 (fun e w' => e = .returned (.bool true) ∧ Below w.heap.size w w') .ret) f m := fun f m hf =>
    ret1 rfl rfl hf (fun w' hw' => ⟨rfl, hw'.2.below (fun k _ h => h) (Nat.le_refl _)⟩)
  have htell : Lw.ProseF inner → Txt0.hasT [42] inner.data.toList = false → Txt0.hasT [47] inner.data.toList = false → told ((((((b0.put 18 (lf md)).pass [47, 42]).put 18 inner.data.toList).pass [42, 47]).put 18 (rd md)).fin).s false true = ((((((b0.put 18 (lf md)).pass [47, 42]).put 18 inner.data.toList).pass [42, 47]).put 18 (rd md)).fin).l := by
    intro hp h1 h2
    obtain ⟨d, hd1, hd2⟩ := hp.1.last
    refine Eq.trans ?_ (told_of (law_comment tra_env true md hp.1.asc (by rintro h; rw [h] at hd1; cases hd1) (fun c hc => ⟨Lw.has_one h1 c hc, Lw.has_one h2 c hc⟩) ⟨d, hd1, hd2⟩))
    congr 1
    simp [Book.fin, Book.right, Book.left, Book.put, Book.pass, Book.as_, b0]
  repeat' (first | (show Jo _ (.call ⟨.value (.func 19), _, _⟩); replace htell := htell hp (by assumption) (by assumption); refine jcall0 (v := .bool true) (bkS g _ r []) bo19 rfl rfl rfl (tells_calls hW hr _ _ (by (simp [bsz_left, bsz_put, bsz_as, bsz_pass, bsz_right, bsz_fin, bsz_b0, Txt0.size_list, ba_list, lf_lng, rd3]; omega)) htell) ?_) | first | refine cseq ?_ | refine rtext ?_ | refine ctrue rfl ?_ | refine cfalse rfl ?_ | refine cskip ?_ | refine cret ?_ | refine tret ?_ | refine jnil ?_ | (first | refine js rfl rfl ?_ | refine jmv rfl rfl rfl ?_ | refine jas_ rfl rfl rfl ?_ | (show Jo _ (.binOp _ _ _ _ _); ((show Jo _ (.binOp .gtr _ _ _ _); (refine jgtr rfl rfl rfl rfl (fun hq => ?_) (fun hq => ?_))))) | (show Jo _ (.pick _ _ _); first | refine jy (ypick1 rfl rfl) rfl rfl ?_ | refine jy (ypick0 rfl rfl) rfl rfl ?_) | (show Jo _ (.unOp _ _ _); refine jy (ynot rfl rfl) rfl rfl ?_) | (show Jo _ (.call _); first | (show Jo _ (.call ⟨.builtin .len, _, #[9]⟩); refine jy (ylens rfl Lw.und9) rfl rfl ?_) | (show Jo _ (.call ⟨.value (.func 31), _, _⟩); refine jcall (ι := Bool) (v := fun b => .bool b) (m' := fun _ => _) (fun b => b = true → Lw.ProseF _) Lw.boPr rfl rfl rfl (Lw.prose_in (by omega)) (fun b hk => ?_); refine jcases (fun hp => ?_) (fun hp => ?_); try (replace hp := hk hp; have hpa := hp.1.asc; have hps := hp.2)) | (show Jo _ (.call ⟨.value (.func 14), _, _⟩); refine jcallq Lw.boHas rfl rfl rfl (Lw.has_in (by omega) (by decide)) ?_; refine jcases (fun hh => ?_) (fun hh => ?_)) | (show Jo _ (.call ⟨.value (.func 33), _, _⟩); refine jcallq Lw.boDl rfl rfl rfl Lw.delim_in ?_) | (show Jo _ (.call ⟨.value (.func 27), _, _⟩); refine jcall (ι := Row) (v := fun _ => .tuple #[]) (m' := fun r' => bkS g _ r' []) (fun r' => BkOk _ r' _) bo27 rfl rfl rfl (endB_calls hg hr (by (simp [bsz_left, bsz_put, bsz_as, bsz_pass, bsz_right, bsz_fin, bsz_b0, Txt0.size_list, ba_list, lf_lng, rd3]; omega))) (fun r hr => ?_)) | (show Jo _ (.call ⟨.value (.func 25), _, _⟩); refine jcall (ι := Row) (v := fun _ => .tuple #[]) (m' := fun r' => bkS g _ r' []) (fun r' => BkOk _ r' _) bo25 rfl rfl rfl (passR_calls hg hr (by first | (simp only [bsz_left, bsz_put, bsz_as, bsz_pass, bsz_right, bsz_fin, bsz_b0, Txt0.size_list, ba_list, lf_lng, rd3]; omega) | (simp [bsz_left, bsz_put, bsz_as, bsz_pass, bsz_right, bsz_fin, bsz_b0, Txt0.size_list, ba_list, lf_lng, rd3]; omega)) (by (decide))) (fun r hr => ?_)) | (show Jo _ (.call ⟨.value (.func 24), _, _⟩); refine jcall (ι := Row) (v := fun _ => .tuple #[]) (m' := fun r' => bkS g _ r' []) (fun r' => BkOk _ r' _) bo24 rfl rfl rfl (putB_calls hg hr (by first | (simp only [bsz_left, bsz_put, bsz_as, bsz_pass, bsz_right, bsz_fin, bsz_b0, Txt0.size_list, ba_list, lf_lng, rd3]; omega) | (simp [bsz_left, bsz_put, bsz_as, bsz_pass, bsz_right, bsz_fin, bsz_b0, Txt0.size_list, ba_list, lf_lng, rd3]; done) | (simp [bsz_left, bsz_put, bsz_as, bsz_pass, bsz_right, bsz_fin, bsz_b0, Txt0.size_list, ba_list, lf_lng, rd3]; omega)) (by decide) (by first | omega | (cases md <;> decide)) (by first | assumption | exact asc_lf _ | exact asc_rd _)) (fun r hr => ?_))) | (show Jo _ (.extract _ _); refine jy (yextractL rfl rfl) rfl rfl ?_) | (show Jo _ (.build _ _); refine jy (ybuild rfl bu29) rfl rfl ?_) | (show Jo _ (.box 29 _); refine jbox (c := [.string ⟨#[]⟩, .slice none 0 0]) rfl rfl rfl (fun g hgT => ?_); refine jmem (m' := bkS g b0 .nil []) rfl ?_; have hg : Cx.may ⟨_, [], fun _ => False, w⟩ g := .inr hgT)))
  all_goals exact post _ _ rfl
end Go.Proofs.YtkehggbmpdacpaaGreatDoor.Pg
namespace Go.Proofs.YtkehggbmpdacpaaGreatDoor.PFnComment
open Go.Rx Go.RowKit Go.Proofs.YtkehggbmpdacpaaGreatDoorW.PrintWords
theorem laws_FnComment.calls (a0 : Bool) (a1 : ByteArray) (ret_ : Bool) (w : World)  (h : ret_ = true ∧ a1.size ≤ 140737488351232 ∧ Pg.Tab w) :
    Calls Tryz.prog 11 #[.bool a0, .string a1] w fun e w' => e = .returned (.bool ret_) ∧ Below w.heap.size w w' := by
  obtain ⟨rfl, h1, hT⟩ := h
  exact Pg.comm_calls a0 a1 w hT h1
end Go.Proofs.YtkehggbmpdacpaaGreatDoor.PFnComment
