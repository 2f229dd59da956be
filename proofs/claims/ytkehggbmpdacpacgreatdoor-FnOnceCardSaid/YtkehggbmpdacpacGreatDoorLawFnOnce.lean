/- FnOnce: its walk. -/
import Derived.Test.YtkehggbmpdacpacGreatDoorLwPr
import Derived.Test.YtkehggbmpdacpacGreatDoorPl2
import Derived.Test.YtkehggbmpdacpacGreatDoorKp15
set_option maxRecDepth 100000
set_option linter.unusedVariables false
set_option linter.unusedSimpArgs false
set_option linter.unusedSectionVars false
namespace Go.Proofs.YtkehggbmpdacpacGreatDoor.Pg
open Go.Rx hiding bt
open Go.RowKit Go.Proofs.YtkehggbmpdacpacGreatDoor.Dec0 Go.Proofs.YtkehggbmpdacpacGreatDoor.Lex0
def mkB : ByteArray := ⟨#[60, 33, 45, 45, 109, 111, 114, 101, 45, 45, 62]⟩
theorem mk_sz : (⟨#[60, 33, 45, 45, 109, 111, 114, 101, 45, 45, 62]⟩ : ByteArray).size = 11 := rfl
theorem prose_pos {s : ByteArray} (h : Lw.ProseF s) : 0 < s.size := by
  obtain ⟨d, h1, _⟩ := h.1.last
  rw [← Txt0.size_list]
  cases hl : s.data.toList with
  | nil => rw [hl] at h1; cases h1
  | cons a b => simp
theorem bt_zero {s : ByteArray} {c : UInt8} (h : s.data.toList.head? = some c) : Rx.bt s 0 = (c.toNat : Int) := by
  cases hl : s.data.toList with
  | nil => rw [hl] at h; cases h
  | cons a b =>
    rw [hl] at h
    cases h
    have hp : 0 < s.size := by rw [← Txt0.size_list, hl]; simp
    obtain ⟨d, h1, h2⟩ := Lw.drop_bt (s := s) (j := 0) hp
    rw [List.drop_zero, hl] at h1
    rw [show (0 : Int) = ((0 : Nat) : Int) from rfl, h2, (List.cons.inj h1).1]
set_option maxHeartbeats 2000000 in
theorem once_calls (a b c : ByteArray) (w : World) (hT : Tab w) (hs0 : a.size ≤ 140737488351232) (hs1 : b.size ≤ 140737488351232) (hs2 : c.size ≤ 140737488351232) :
    Calls Tryz.prog 4 #[.string a, .string b, .string c] w fun e w' => e = .returned (.bool true) ∧ Below w.heap.size w w' := by
  refine enter (fun _ => False) 56 [] Tryz.func4 rfl rfl rfl (vs := [.string a, .string b, .string c]) (Has.nil _) ?_
  conv => arg 2; arg 2; whnf
  have hW : ∃ W, Bs W ⟨56, [], fun _ => False, w⟩ ∧ Tab W := ⟨w, ⟨Below.refl _ _, fun k h => h.elim⟩, hT⟩
  have hr := bk0 (X := ⟨56, [], fun _ => False, w⟩)
  have post : ∀ (f : Fr) (m : Mem), Rx.look f 6 = some (.bool true) → PJ ⟨56, [], fun _ => False, w⟩ (bodyPost Tryz.prog Tryz.f4 (fun e w' => e = .returned (.bool true) ∧ Below w.heap.size w w') .ret) f m := fun f m hf =>
    ret1 rfl rfl hf (fun w' hw' => ⟨rfl, hw'.2.below (fun k _ h => h) (Nat.le_refl _)⟩)
  have htell : Lw.ProseF a → Lw.ProseF b → Lw.ProseF c → ¬ Rx.bt b 0 ≤ 32 → told ((((b0.put 18 a.data.toList).put 2 (divr false)).put 18 ((b ++ mkB) ++ c).data.toList).fin).s false true = ((((b0.put 18 a.data.toList).put 2 (divr false)).put 18 ((b ++ mkB) ++ c).data.toList).fin).l := by
    intro ha hb hc hq
    have e : ((b ++ mkB) ++ c).data.toList = b.data.toList ++ divr false ++ c.data.toList := by rw [Txt0.app_list, Txt0.app_list]; rfl
    rw [e]
    refine Eq.trans ?_ (told_of (law_once tra_env ha.1 hb.1 hc.1 (fun d hd => ?_)))
    · congr 1
      simp [Book.fin, Book.right, Book.left, Book.put, Book.pass, Book.as_, b0]
    · have h1 := bt_zero hd
      rw [h1] at hq
      unfold isSp
      simp only [Bool.or_eq_false_iff, beq_eq_false_iff_ne, ne_eq]
      omega
  repeat' (first | refine cseq ?_ | refine rtext ?_ | refine ctrue rfl ?_ | refine cfalse rfl ?_ | refine cskip ?_ | refine cret ?_ | refine tret ?_ | refine jnil ?_ | (first | refine js rfl rfl ?_ | refine jmv rfl rfl rfl ?_ | refine jas_ rfl rfl rfl ?_ | (show Jo _ (.binOp _ _ _ _ _); first | (show Jo _ (.binOp .gtr _ _ _ _); refine jgtr rfl rfl rfl rfl (fun hq => ?_) (fun hq => ?_)) | (show Jo _ (.binOp .leq _ _ _ _); refine jleq rfl rfl rfl rfl (fun hq => ?_) (fun hq => ?_)) | (show Jo _ (.binOp .add 9 _ _ _); refine jy (ysadd rfl rfl (by simp only [ByteArray.size_append, mk_sz]; omega) rfl) rfl rfl ?_)) | (show Jo _ (.pick _ _ _); first | refine jy (ypick1 rfl rfl) rfl rfl ?_ | refine jy (ypick0 rfl rfl) rfl rfl ?_) | refine jy (ynot rfl rfl) rfl rfl ?_ | (show Jo _ (.call _); first | (show Jo _ (.call ⟨.builtin .len, _, #[9]⟩); refine jy (ylens rfl Lw.und9) rfl rfl ?_) | (show Jo (some 22) (.call ⟨.value (.func 17), _, _⟩); refine jcall (ι := Bool) (v := fun b => .bool b) (m' := fun _ => _) (fun b => b = true → Lw.ProseF _) Lw.boPr rfl rfl rfl (Lw.prose_in (by omega)) (fun b0_ hk => ?_); refine jcases (fun ha => ?_) (fun ha => ?_); try (replace ha := hk ha; have haa := ha.1.asc; have has := ha.2)) | (show Jo (some 26) (.call ⟨.value (.func 17), _, _⟩); refine jcall (ι := Bool) (v := fun b => .bool b) (m' := fun _ => _) (fun b => b = true → Lw.ProseF _) Lw.boPr rfl rfl rfl (Lw.prose_in (by omega)) (fun b0_ hk => ?_); refine jcases (fun hb => ?_) (fun hb => ?_); try (replace hb := hk hb; have hbz := prose_pos hb; have hba := hb.1.asc; have hbs := hb.2)) | (show Jo (some 31) (.call ⟨.value (.func 17), _, _⟩); refine jcall (ι := Bool) (v := fun b => .bool b) (m' := fun _ => _) (fun b => b = true → Lw.ProseF _) Lw.boPr rfl rfl rfl (Lw.prose_in (by omega)) (fun b0_ hk => ?_); refine jcases (fun hc => ?_) (fun hc => ?_); try (replace hc := hk hc; have hca := hc.1.asc; have hcs := hc.2)) | (show Jo (some 43) (.call _); refine jcall (ι := Row) (v := fun _ => .tuple #[]) (m' := fun r' => bkS g _ r' []) (fun r' => BkOk _ r' _) bo24 rfl rfl rfl (putB_calls hg hr (by (simp [bsz_put, bsz_fin, bsz_b0, Txt0.size_list, ByteArray.size_append, mk_sz]; done)) (by decide) (by omega) haa) (fun r hr => ?_)) | (show Jo (some 45) (.call _); refine jcall (ι := Row) (v := fun _ => .tuple #[]) (m' := fun r' => bkS g _ r' []) (fun r' => BkOk _ r' _) bo24 rfl rfl rfl (putB_calls hg hr (by (simp [bsz_put, bsz_fin, bsz_b0, Txt0.size_list, ByteArray.size_append, mk_sz]; omega)) (by decide) (by decide) (by intro c hc; revert c; decide)) (fun r hr => ?_)) | (show Jo (some 51) (.call _); refine jcall (ι := Row) (v := fun _ => .tuple #[]) (m' := fun r' => bkS g _ r' []) (fun r' => BkOk _ r' _) bo24 rfl rfl rfl (putB_calls hg hr (by (simp [bsz_put, bsz_fin, bsz_b0, Txt0.size_list, ByteArray.size_append, mk_sz]; omega)) (by decide) (by simp only [ByteArray.size_append, mk_sz]; omega) (by rw [Txt0.app_list, Txt0.app_list]; exact asc_app (asc_app hba (by intro c hc; revert c; decide)) hca)) (fun r hr => ?_)) | (show Jo (some 53) (.call _); refine jcall (ι := Row) (v := fun _ => .tuple #[]) (m' := fun r' => bkS g _ r' []) (fun r' => BkOk _ r' _) bo27 rfl rfl rfl (endB_calls hg hr (by (simp [bsz_put, bsz_fin, bsz_b0, Txt0.size_list, ByteArray.size_append, mk_sz]; omega))) (fun r hr => ?_)) | (show Jo (some 55) (.call _); refine jcall0 (v := .bool true) (bkS g _ r []) bo19 rfl rfl rfl (tells_calls hW hr _ _ (by (simp [bsz_put, bsz_fin, bsz_b0, Txt0.size_list, ByteArray.size_append, mk_sz]; omega)) (htell ha hb hc hq)) ?_)) | (show Jo _ (.build _ _); refine jy (ybuild rfl bu29) rfl rfl ?_) | (show Jo _ (.box 31 _); refine jbox (c := [.string ⟨#[]⟩, .slice none 0 0]) rfl rfl rfl (fun g hgT => ?_); refine jmem (m' := bkS g b0 .nil []) rfl ?_; have hg : Cx.may ⟨_, [], fun _ => False, w⟩ g := .inr hgT) | (show Jo _ (.index 9 _ _); refine jy (yidx (c := Rx.bt b 0) rfl rfl Lw.und9 (by omega) (by omega) rfl) rfl rfl ?_)))
  all_goals exact post _ _ rfl
end Go.Proofs.YtkehggbmpdacpacGreatDoor.Pg
namespace Go.Proofs.YtkehggbmpdacpacGreatDoor.PFnOnce
open Go.Rx Go.RowKit Go.Proofs.YtkehggbmpdacpacGreatDoorW.PrintWords
theorem laws_FnOnce.calls (a0 : ByteArray) (a1 : ByteArray) (a2 : ByteArray) (ret_ : Bool) (w : World)  (h : ret_ = true ∧ a0.size ≤ 140737488351232 ∧ a1.size ≤ 140737488351232 ∧ a2.size ≤ 140737488351232 ∧ Pg.Tab w) :
    Calls Tryz.prog 4 #[.string a0, .string a1, .string a2] w fun e w' => e = .returned (.bool ret_) ∧ Below w.heap.size w w' := by
  obtain ⟨rfl, h0, h1, h2, hT⟩ := h
  exact Pg.once_calls a0 a1 a2 w hT h0 h1 h2
end Go.Proofs.YtkehggbmpdacpacGreatDoor.PFnOnce
