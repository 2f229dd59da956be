/- FnRaw: its walk. -/
import Derived.Test.YtkehggbmpdacpacGreatDoorKp14
import Derived.Test.YtkehggbmpdacpacGreatDoorKp15
set_option maxRecDepth 100000
set_option linter.unusedVariables false
set_option linter.unusedSimpArgs false
set_option linter.unusedSectionVars false
namespace Go.Proofs.YtkehggbmpdacpacGreatDoor.Pg
open Go.Rx hiding bt
open Go.RowKit Go.Proofs.YtkehggbmpdacpacGreatDoor.Dec0 Go.Proofs.YtkehggbmpdacpacGreatDoor.Lex0
set_option maxHeartbeats 2000000 in
theorem rawL_calls (md : Bool) (name : ByteArray) (A : Option Addr) (c : Nat) (l : List ByteArray) (w : World) (hT : Tab w) (hs0 : name.size ≤ 140737488351232) (ha : RowAt nof w (.slice A l.length c) l.length (Lw.strs l)) (hl : l.length ≤ 8796093022208) :
    Calls Tryz.prog 9 #[.bool md, .string name, .slice A l.length c] w fun e w' => e = .returned (.bool true) ∧ Below w.heap.size w w' := by
  refine enter (fun _ => False) 73 [] Tryz.func9 rfl rfl rfl (vs := [.bool md, .string name, .slice A l.length c]) (Has.nil _) ?_
  conv => arg 2; arg 2; whnf
  have hW : ∃ W, Bs W ⟨73, [], fun _ => False, w⟩ ∧ Tab W := ⟨w, ⟨Below.refl _ _, fun k h => h.elim⟩, hT⟩
  have hr := bk0 (X := ⟨73, [], fun _ => False, w⟩)
  have post : ∀ (f : Fr) (m : Mem), Rx.look f 6 = some (.bool true) → PJ ⟨73, [], fun _ => False, w⟩ (bodyPost Tryz.prog Tryz.f9 (fun e w' => e = .returned (.bool true) ∧ Below w.heap.size w w') .ret) f m := fun f m hf =>
    ret1 rfl rfl hf (fun w' hw' => ⟨rfl, hw'.2.below (fun k _ h => h) (Nat.le_refl _)⟩)
  repeat' ((fail_if_success (show PJ _ (Code.wp _ (Code.loop _) _) _ _)); first | first | refine cseq ?_ | refine rtext ?_ | refine ctrue rfl ?_ | refine cfalse rfl ?_ | refine cskip ?_ | refine cblk ?_ | refine cret ?_ | refine tret ?_ | refine jnil ?_ | (first | refine js rfl rfl ?_ | refine jmv rfl rfl rfl ?_ | refine jas_ rfl rfl rfl ?_ | (show Jo _ (.binOp _ _ _ _ _); ((show Jo _ (.binOp .gtr _ _ _ _); refine jgtr rfl rfl rfl rfl (fun hq => ?_) (fun hq => ?_)))) | (show Jo _ (.pick _ _ _); first | refine jy (ypick1 rfl rfl) rfl rfl ?_ | refine jy (ypick0 rfl rfl) rfl rfl ?_) | refine jy (ynot rfl rfl) rfl rfl ?_ | (show Jo _ (.call _); first | (show Jo _ (.call ⟨.builtin .len, _, #[9]⟩); refine jy (ylens rfl Lw.und9) rfl rfl ?_) | (show Jo _ (.call ⟨.builtin .len, _, _⟩); refine jy (ylenl rfl Lw.und24) rfl rfl ?_) | (show Jo _ (.call ⟨.value (.func 21), _, _⟩); refine jcallq Lw.boFit rfl rfl rfl (Lw.fits3_in ha (fun _ h => h) (by omega)) ?_; refine jcases (fun hf => ?_) (fun hf => ?_)) | (show Jo _ (.call ⟨.value (.func 26), _, _⟩); refine jcall (ι := Bool) (v := fun b => .bool b) (m' := fun _ => _) (fun b => b = true → Lw.NameF name) Lw.boNm rfl rfl rfl (Lw.named_in (by omega)) (fun b hk => ?_); refine jcases (fun hb => ?_) (fun hb => ?_); try (replace hb := hk hb; have hna := hb.1.asc; have hns := hb.2)) | (show Jo _ (.call ⟨.value (.func 30), _, _⟩); refine jcall (ι := Row) (v := fun _ => .tuple #[]) (m' := fun r' => bkS g _ r' []) (fun r' => BkOk _ r' _) bo23 rfl rfl rfl (leftB_calls hg hr (by (simp only [bsz_left, bsz_put, bsz_as, bsz_pass, bsz_right, bsz_fin, bsz_b0, Txt0.size_list, ba_list, lf_lng, rd3]; omega)) _) (fun r hr => ?_)) | (show Jo _ (.call ⟨.value (.func 18), _, _⟩); refine jcall (ι := Row) (v := fun _ => .tuple #[]) (m' := fun r' => bkS g _ r' []) (fun r' => BkOk _ r' _) bo24 rfl rfl rfl (putB_calls hg hr (by (simp only [bsz_left, bsz_put, bsz_as, bsz_pass, bsz_right, bsz_fin, bsz_b0, Txt0.size_list, ba_list, lf_lng, rd3]; omega)) (by decide) (by (omega)) (by (assumption))) (fun r hr => ?_))) | (show Jo _ (.build _ _); refine jy (ybuild rfl bu29) rfl rfl ?_) | (show Jo _ (.box 31 _); refine jbox (c := [.string ⟨#[]⟩, .slice none 0 0]) rfl rfl rfl (fun g hgT => ?_); refine jmem (m' := bkS g b0 .nil []) rfl ?_; have hg : Cx.may ⟨_, [], fun _ => False, w⟩ g := .inr hgT)))
  all_goals first | exact post _ _ rfl | skip
  have hl50 : l.length ≤ 50 := by omega
  obtain ⟨_, _, e, ha⟩ := ha
  cases e
  have hsz : bsz ((b0.left md).put 13 name.data.toList) ≤ 1000 := by simp [bsz_left, bsz_put, bsz_b0]; omega
  generalize hB0 : (b0.left md).put 13 name.data.toList = B0 at hsz hr
  refine fin (f' := [(0, .bool md), (7, .pointer (some ⟨g, 0, none⟩)), (34, .slice A l.length c), (35, .int .i64 l.length), (36, .int .i64 (0 : Nat))]) (m' := bkS g (((txs l).take 0).foldl br B0) r [])
    (cloop (ι := Nat × Row) (fun q => [(0, .bool md), (7, .pointer (some ⟨g, 0, none⟩)), (34, .slice A l.length c), (35, .int .i64 l.length), (36, .int .i64 (q.1 : Nat))]) (fun q => bkS g (((txs l).take q.1).foldl br B0) q.2 []) (fun k q => k = l.length - q.1 ∧ q.1 ≤ l.length ∧ BkOk ⟨73, [], fun _ => False, w⟩ q.2 (((txs l).take q.1).foldl br B0).l ∧ bsz (((txs l).take q.1).foldl br B0) ≤ 1000 + 1100 * q.1 ∧ (∀ v ∈ (txs l).take q.1, asc v ∧ ∀ c ∈ v, c ≠ 96)) l.length (0, r) ⟨rfl, Nat.zero_le _, hr, hsz, fun v hv => by cases hv⟩ ?_) ⟨rfl, rfl, rfl, rfl, rfl, trivial⟩ rfl
  rintro k ⟨j, r⟩ ⟨rfl, hj, hr, hsz, hall⟩ K hK
  dsimp only at hj hr hsz hall hK ⊢
  generalize hB : ((txs l).take j).foldl br B0 = B at hr hsz ⊢
  by_cases hlt : j < l.length
  · obtain ⟨x, hx⟩ : ∃ x, l[j]? = some x := ⟨_, List.getElem?_eq_getElem hlt⟩
    have hxf := Lw.fits3_all hf x (List.mem_of_getElem? hx)
    obtain ⟨ad, rfl, _, hc⟩ := ha j (.string x) (by simp [Lw.strs, hx])
    have hk := fun r hr hs (ha : asc x.data.toList) (h96 : Txt0.hasT [96] x.data.toList = false) => hK (l.length - (j + 1)) (j + 1, r) (by omega) ⟨rfl, by omega, hr, hs, fun v hv => by
      rw [List.take_add_one, txs_at hx] at hv
      rcases List.mem_append.1 hv with h | h
      · exact hall v h
      · rw [Option.toList_some, List.mem_singleton] at h; subst h; exact ⟨ha, Lw.has_one h96⟩⟩
    have e : ((txs l).take (j + 1)).foldl br B0 = ((B.pass [32, 96]).put 15 x.data.toList).pass [96] := by rw [take_fold (txs_at hx), hB]; rfl
    simp only [e] at hk
    repeat' (first | refine cseq ?_ | refine rtext ?_ | refine ctrue rfl ?_ | refine cfalse rfl ?_ | refine cskip ?_ | refine cblk ?_ | refine cret ?_ | refine tnorm ?_ | refine tret ?_ | refine bret ?_ | refine jnil ?_ | (first | refine js rfl rfl ?_ | refine jmv rfl rfl rfl ?_ | (show Jo _ (.load _ _); refine jy (yloadw rfl hc (fun h => h) Lw.one9) rfl rfl ?_) | refine jas_ rfl rfl rfl ?_ | (show Jo _ (.binOp _ _ _ _ _); first | (show Jo _ (.binOp .gtr _ _ _ _); refine jgtr rfl rfl rfl rfl (fun hq => ?_) (fun hq => ?_)) | (show Jo _ (.binOp .add _ _ _ _); refine jy (yadd (c := ((j + 1 : Nat) : Int)) rfl rfl (by rw [i64_in (by omega) (by omega)]; omega)) rfl rfl ?_) | refine jy (ylss rfl rfl (by (exact decide_eq_true (by omega)))) rfl rfl ?_) | (show Jo _ (.pick _ _ _); first | refine jy (ypick1 rfl rfl) rfl rfl ?_ | refine jy (ypick0 rfl rfl) rfl rfl ?_) | refine jy (ynot rfl rfl) rfl rfl ?_ | (show Jo _ (.call _); first | (show Jo _ (.call ⟨.builtin .len, _, #[9]⟩); refine jy (ylens rfl Lw.und9) rfl rfl ?_) | (show Jo _ (.call ⟨.value (.func 33), _, _⟩); refine jcallq Lw.boAsc rfl rfl rfl (Lw.ascii_in (by omega)) ?_; refine jcases (fun hasc => ?_) (fun hasc => ?_); try have hxa : asc x.data.toList := (Lw.asc_all hasc).1) | (show Jo (some 45) (.call ⟨.value (.func 14), _, _⟩); refine jcallq Lw.boHas rfl rfl rfl (Lw.has_in (by omega) (by decide)) ?_; refine jcases (fun h96 => ?_) (fun h96 => ?_)) | (show Jo (some 49) (.call ⟨.value (.func 14), _, _⟩); refine jcallq Lw.boHas rfl rfl rfl (Lw.has_in (by omega) (by decide)) ?_; refine jcases (fun h92 => ?_) (fun h92 => ?_)) | (show Jo _ (.call ⟨.value (.func 31), _, _⟩); refine jcall (ι := Row) (v := fun _ => .tuple #[]) (m' := fun r' => bkS g _ r' []) (fun r' => BkOk _ r' _) bo25 rfl rfl rfl (passR_calls hg hr (by first | omega | (simp [bsz_left, bsz_put, bsz_as, bsz_pass, bsz_right, bsz_fin, bsz_b0, Txt0.size_list, ba_list, lf_lng, rd3]; omega)) (by (decide))) (fun r hr => ?_)) | (show Jo _ (.call ⟨.value (.func 18), _, _⟩); refine jcall (ι := Row) (v := fun _ => .tuple #[]) (m' := fun r' => bkS g _ r' []) (fun r' => BkOk _ r' _) bo24 rfl rfl rfl (putB_calls hg hr (by (simp [bsz_left, bsz_put, bsz_as, bsz_pass, bsz_right, bsz_fin, bsz_b0, Txt0.size_list, ba_list, lf_lng, rd3]; omega)) (by decide) (by (omega)) (by (assumption))) (fun r hr => ?_))) | (show Jo _ (.indexAddr _ _ _); refine jy (yat (p' := ad.add j) rfl rfl Lw.und24 Lw.sz9 (by omega) (by omega) (by simp)) rfl rfl ?_)))
    all_goals first | exact post _ _ rfl | exact fin (hk r hr (by simp [bsz_put, bsz_pass]; omega) hxa h96) ⟨rfl, rfl, rfl, rfl, rfl, trivial⟩ rfl
  · obtain rfl : j = l.length := by omega
    have htell : told ((B.pass [32]).right md).fin.s false true = ((B.pass [32]).right md).fin.l := by
      rw [take_txs] at hall
      rw [← hB, take_txs, ← hB0]
      refine Eq.trans ?_ (told_of (law_raw ea_env tra_env true md hb.1 _ hall))
      congr 1
      simp only [Book.fin, Book.right, Book.put, Book.pass, Book.as_]
      rw [fold_s (g := fun v => 32 :: 96 :: (v ++ [96])) (fun b v => by show (((b.s ++ [32, 96]) ++ v) ++ [96]) = _; simp)]
      simp [rS, Book.left, Book.put, Book.as_, b0]
    repeat' (first | refine cseq ?_ | refine rtext ?_ | refine cfalse rfl ?_ | refine cret ?_ | refine cexit ?_ | refine jnil ?_ | (first | refine jmv rfl rfl rfl ?_ | refine jas_ rfl rfl rfl ?_ | (show Jo _ (.binOp _ _ _ _ _); refine jy (ylss rfl rfl (by (exact decide_eq_false (by omega)))) rfl rfl ?_) | (show Jo _ (.call _); first | (show Jo _ (.call ⟨.value (.func 32), _, _⟩); refine jcall (ι := Row) (v := fun _ => .tuple #[]) (m' := fun r' => bkS g _ r' []) (fun r' => BkOk _ r' _) bo26 rfl rfl rfl (rightB_calls hg hr (by (simp [bsz_left, bsz_put, bsz_as, bsz_pass, bsz_right, bsz_fin, bsz_b0, Txt0.size_list, ba_list, lf_lng, rd3]; omega)) _) (fun r hr => ?_)) | (show Jo _ (.call ⟨.value (.func 19), _, _⟩); refine jcall (ι := Row) (v := fun _ => .tuple #[]) (m' := fun r' => bkS g _ r' []) (fun r' => BkOk _ r' _) bo27 rfl rfl rfl (endB_calls hg hr (by (simp [bsz_left, bsz_put, bsz_as, bsz_pass, bsz_right, bsz_fin, bsz_b0, Txt0.size_list, ba_list, lf_lng, rd3]; omega))) (fun r hr => ?_)) | (show Jo _ (.call ⟨.value (.func 31), _, _⟩); refine jcall (ι := Row) (v := fun _ => .tuple #[]) (m' := fun r' => bkS g _ r' []) (fun r' => BkOk _ r' _) bo25 rfl rfl rfl (passR_calls hg hr (by (omega)) (by (decide))) (fun r hr => ?_)) | (show Jo _ (.call ⟨.value (.func 20), _, _⟩); refine jcall0 (v := .bool true) (bkS g _ r []) bo19 rfl rfl rfl (tells_calls hW hr _ _ (by (simp [bsz_left, bsz_put, bsz_as, bsz_pass, bsz_right, bsz_fin, bsz_b0, Txt0.size_list, ba_list, lf_lng, rd3]; omega)) htell) ?_))))
    exact post _ _ rfl
end Go.Proofs.YtkehggbmpdacpacGreatDoor.Pg
namespace Go.Proofs.YtkehggbmpdacpacGreatDoor.PFnRaw
open Go.Rx Go.RowKit Go.Proofs.YtkehggbmpdacpacGreatDoorW.PrintWords
theorem laws_FnRaw.calls (a0 : Bool) (a1 : ByteArray) (A2 : Option Addr) (c2 : Nat) (l2 : List ByteArray) (ret_ : Bool) (w : World) (hr2 : Kd.C Kd.string w A2 l2.length l2) (hc2 : l2.length ≤ c2) (h : ret_ = true ∧ a1.size ≤ 140737488351232 ∧ l2.length ≤ 8796093022208 ∧ Pg.Tab w) :
    Calls Tryz.prog 9 #[.bool a0, .string a1, .slice A2 l2.length c2] w fun e w' => e = .returned (.bool ret_) ∧ Below w.heap.size w w' := by
  obtain ⟨rfl, h1, h2, hT⟩ := h
  exact Pg.rawL_calls a0 a1 A2 c2 l2 w hT h1 (Lw.rowAt_of rfl hr2) h2
end Go.Proofs.YtkehggbmpdacpacGreatDoor.PFnRaw
