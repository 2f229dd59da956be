/- FnBareNamed: its walk. -/
import Derived.Test.YtkehggbmpdacpaaGreatDoorLwAl
import Derived.Test.YtkehggbmpdacpaaGreatDoorKp16
set_option maxRecDepth 100000
set_option linter.unusedVariables false
set_option linter.unusedSimpArgs false
set_option linter.unusedSectionVars false
namespace Go.Proofs.YtkehggbmpdacpaaGreatDoor.Pg
open Go.Rx hiding bt
open Go.RowKit Go.Proofs.YtkehggbmpdacpaaGreatDoor.Dec0 Go.Proofs.YtkehggbmpdacpaaGreatDoor.Lex0
set_option maxHeartbeats 2000000 in
theorem bareNamed_calls (md : Bool) (name : ByteArray) (K : Option Addr) (ck : Nat) (ks : List ByteArray) (A : Option Addr) (c : Nat) (vs : List ByteArray) (w : World) (hT : Tab w) (hs0 : name.size ≤ 140737488351232) (hak : RowAt nof w (.slice K ks.length ck) ks.length (Lw.strs ks)) (hlk : ks.length ≤ 8796093022208) (hav : RowAt nof w (.slice A vs.length c) vs.length (Lw.strs vs)) (hlv : vs.length ≤ 8796093022208) :
    Calls Tryz.prog 5 #[.bool md, .string name, .slice K ks.length ck, .slice A vs.length c] w fun e w' => e = .returned (.bool true) ∧ Below w.heap.size w w' := by
  refine enter (fun _ => False) 83 [] Tryz.func5 rfl rfl rfl (vs := [.bool md, .string name, .slice K ks.length ck, .slice A vs.length c]) (Has.nil _) ?_
  conv => arg 2; arg 2; whnf
  have hW : ∃ W, Bs W ⟨83, [], fun _ => False, w⟩ ∧ Tab W := ⟨w, ⟨Below.refl _ _, fun k h => h.elim⟩, hT⟩
  have hr := bk0 (X := ⟨83, [], fun _ => False, w⟩)
  have post : ∀ (f : Fr) (m : Mem), Rx.look f 8 = some (.bool true) → PJ ⟨83, [], fun _ => False, w⟩ (bodyPost Tryz.prog Tryz.f5 (fun e w' => e = .returned (.bool true) ∧ Below w.heap.size w w') .ret) f m := fun f m hf =>
    ret1 rfl rfl hf (fun w' hw' => ⟨rfl, hw'.2.below (fun k _ h => h) (Nat.le_refl _)⟩)
  repeat' ((fail_if_success (show PJ _ (Code.wp _ (Code.loop _) _) _ _)); first | first | refine cseq ?_ | refine rtext ?_ | refine ctrue rfl ?_ | refine cfalse rfl ?_ | refine cskip ?_ | refine cblk ?_ | refine cret ?_ | refine tret ?_ | refine jnil ?_ | (first | refine js rfl rfl ?_ | refine jmv rfl rfl rfl ?_ | refine jas_ rfl rfl rfl ?_ | (show Jo _ (.binOp _ _ _ _ _); first | (show Jo _ (.binOp .gtr _ _ _ _); (refine jgtr rfl rfl rfl rfl (fun hq => ?_) (fun hq => ?_))) | (show Jo _ (.binOp .neq 3 _ _ _); refine jneq rfl rfl rfl rfl (fun hq => ?_) (fun hq => ?_))) | (show Jo _ (.pick _ _ _); first | refine jy (ypick1 rfl rfl) rfl rfl ?_ | refine jy (ypick0 rfl rfl) rfl rfl ?_) | (show Jo _ (.unOp _ _ _); refine jy (ynot rfl rfl) rfl rfl ?_) | (show Jo _ (.call _); first | (show Jo _ (.call ⟨.builtin .len, _, #[9]⟩); refine jy (ylens rfl Lw.und9) rfl rfl ?_) | (show Jo _ (.call ⟨.builtin .len, _, _⟩); refine jy (ylenl rfl Lw.und24) rfl rfl ?_) | (show Jo _ (.call ⟨.value (.func 21), _, _⟩); refine jcall (ι := Bool) (v := fun b => .bool b) (m' := fun _ => _) (fun b => b = true → Lw.NameF _) Lw.boNm rfl rfl rfl (Lw.named_in (by omega)) (fun b hk => ?_); refine jcases (fun hb => ?_) (fun hb => ?_); try (replace hb := hk hb; have hna := hb.1.asc; have hns := hb.2)) | (show Jo (some 17) (.call ⟨.value (.func 20), _, _⟩); refine jcallq Lw.boFit rfl rfl rfl (Lw.fits3_in hak (fun _ h => h) (by omega)) ?_; refine jcases (fun hfk => ?_) (fun hfk => ?_)) | (show Jo (some 22) (.call ⟨.value (.func 20), _, _⟩); refine jcallq Lw.boFit rfl rfl rfl (Lw.fits3_in hav (fun _ h => h) (by omega)) ?_; refine jcases (fun hfv => ?_) (fun hfv => ?_)) | (show Jo (some 30) (.call ⟨.value (.func 22), _, _⟩); refine jcall (ι := Bool) (v := fun b => .bool b) (m' := fun _ => _) (fun b => b = true → ks.length ≤ 50 ∧ ∀ x ∈ ks, Lw.BareF x) Lw.boAl rfl rfl rfl (Lw.allNamed_in hak (fun _ h => h) (by omega) (Lw.fits3_all hfk)) (fun b hk => ?_); refine jcases (fun hbk => ?_) (fun hbk => ?_); try replace hbk := hk hbk) | (show Jo (some 35) (.call ⟨.value (.func 22), _, _⟩); refine jcall (ι := Bool) (v := fun b => .bool b) (m' := fun _ => _) (fun b => b = true → vs.length ≤ 50 ∧ ∀ x ∈ vs, Lw.BareF x) Lw.boAl rfl rfl rfl (Lw.allNamed_in hav (fun _ h => h) (by omega) (Lw.fits3_all hfv)) (fun b hk => ?_); refine jcases (fun hbv => ?_) (fun hbv => ?_); try replace hbv := hk hbv) | (show Jo _ (.call ⟨.value (.func 23), _, _⟩); refine jcall (ι := Row) (v := fun _ => .tuple #[]) (m' := fun r' => bkS g _ r' []) (fun r' => BkOk _ r' _) bo23 rfl rfl rfl (leftB_calls hg hr (by (simp only [bsz_left, bsz_put, bsz_as, bsz_pass, bsz_right, bsz_fin, bsz_b0, Txt0.size_list, ba_list, lf_lng, rd3]; omega)) _) (fun r hr => ?_)) | (show Jo _ (.call ⟨.value (.func 24), _, _⟩); refine jcall (ι := Row) (v := fun _ => .tuple #[]) (m' := fun r' => bkS g _ r' []) (fun r' => BkOk _ r' _) bo24 rfl rfl rfl (putB_calls hg hr (by (simp only [bsz_left, bsz_put, bsz_as, bsz_pass, bsz_right, bsz_fin, bsz_b0, Txt0.size_list, ba_list, lf_lng, rd3]; omega)) (by decide) (by (omega)) (by (assumption))) (fun r hr => ?_))) | (show Jo _ (.build _ _); refine jy (ybuild rfl bu29) rfl rfl ?_) | (show Jo _ (.box 29 _); refine jbox (c := [.string ⟨#[]⟩, .slice none 0 0]) rfl rfl rfl (fun g hgT => ?_); refine jmem (m' := bkS g b0 .nil []) rfl ?_; have hg : Cx.may ⟨_, [], fun _ => False, w⟩ g := .inr hgT)))
  all_goals first | exact post _ _ rfl | skip
  obtain ⟨hl50, hbk⟩ := hbk
  obtain ⟨_, hbv⟩ := hbv
  have hlen : vs.length = ks.length := by omega
  obtain ⟨_, _, e, hak⟩ := hak
  cases e
  obtain ⟨_, _, e, hav⟩ := hav
  cases e
  have hsz : bsz ((b0.left md).put 13 name.data.toList) ≤ 1000 := by simp [bsz_left, bsz_put, bsz_b0]; omega
  generalize hB0 : (b0.left md).put 13 name.data.toList = B0 at hsz hr
  refine fin (f' := [(0, .bool md), (2, .slice K ks.length ck), (9, .pointer (some ⟨g, 0, none⟩)), (53, .slice A vs.length c), (54, .int .i64 vs.length), (55, .int .i64 (0 : Nat))]) (m' := bkS g ((((txs ks).zip (txs vs)).take 0).foldl bnb B0) r [])
    (cloop (ι := Nat × Row) (fun q => [(0, .bool md), (2, .slice K ks.length ck), (9, .pointer (some ⟨g, 0, none⟩)), (53, .slice A vs.length c), (54, .int .i64 vs.length), (55, .int .i64 (q.1 : Nat))]) (fun q => bkS g ((((txs ks).zip (txs vs)).take q.1).foldl bnb B0) q.2 []) (fun k q => k = vs.length - q.1 ∧ q.1 ≤ vs.length ∧ BkOk ⟨83, [], fun _ => False, w⟩ q.2 ((((txs ks).zip (txs vs)).take q.1).foldl bnb B0).l ∧ bsz ((((txs ks).zip (txs vs)).take q.1).foldl bnb B0) ≤ 1000 + 300 * q.1) vs.length (0, r) ⟨rfl, Nat.zero_le _, hr, hsz⟩ ?_) ⟨rfl, rfl, rfl, rfl, rfl, rfl, trivial⟩ rfl
  rintro k ⟨j, r⟩ ⟨rfl, hj, hr, hsz⟩ K0 hK
  dsimp only at hj hr hsz hK ⊢
  generalize hB : (((txs ks).zip (txs vs)).take j).foldl bnb B0 = B at hr hsz ⊢
  by_cases hlt : j < vs.length
  · obtain ⟨x, hx⟩ : ∃ x, vs[j]? = some x := ⟨_, List.getElem?_eq_getElem hlt⟩
    obtain ⟨y, hy⟩ : ∃ y, ks[j]? = some y := ⟨_, List.getElem?_eq_getElem (by omega)⟩
    have hxb := hbv x (List.mem_of_getElem? hx)
    have hyb := hbk y (List.mem_of_getElem? hy)
    have hxa := hxb.1.asc
    have hxs := hxb.2.2
    have hya := hyb.1.asc
    have hys := hyb.2.2
    obtain ⟨ad, rfl, _, hc⟩ := hav j (.string x) (by simp [Lw.strs, hx])
    obtain ⟨ak, rfl, _, hck⟩ := hak j (.string y) (by simp [Lw.strs, hy])
    have hk := fun r hr hs => hK (vs.length - (j + 1)) (j + 1, r) (by omega) ⟨rfl, by omega, hr, hs⟩
    have hz : ((txs ks).zip (txs vs))[j]? = some (y.data.toList, x.data.toList) := by rw [List.getElem?_zip_eq_some]; exact ⟨txs_at hy, txs_at hx⟩
    have e : (((txs ks).zip (txs vs)).take (j + 1)).foldl bnb B0 = ((((B.pass [32]).put 15 y.data.toList).pass [61]).put 16 x.data.toList) := by rw [take_fold hz, hB]; rfl
    simp only [e] at hk
    repeat' (first | refine cseq ?_ | refine rtext ?_ | refine ctrue rfl ?_ | refine cskip ?_ | refine cblk ?_ | refine tnorm ?_ | refine jnil ?_ | (first | refine jmv rfl rfl rfl ?_ | (show Jo _ (.load _ _); first | refine jy (yloadw rfl hc (fun h => h) Lw.one9) rfl rfl ?_ | refine jy (yloadw rfl hck (fun h => h) Lw.one9) rfl rfl ?_) | refine jas_ rfl rfl rfl ?_ | (show Jo _ (.binOp _ _ _ _ _); first | (show Jo _ (.binOp .add 3 _ _ _); refine jy (yadd (c := ((j + 1 : Nat) : Int)) rfl rfl (by rw [i64_in (by omega) (by omega)]; omega)) rfl rfl ?_) | refine jy (ylss rfl rfl (by (exact decide_eq_true (by omega)))) rfl rfl ?_) | (show Jo _ (.call _); first | (show Jo _ (.call ⟨.value (.func 25), _, _⟩); refine jcall (ι := Row) (v := fun _ => .tuple #[]) (m' := fun r' => bkS g _ r' []) (fun r' => BkOk _ r' _) bo25 rfl rfl rfl (passR_calls hg hr (by first | omega | (simp [bsz_left, bsz_put, bsz_as, bsz_pass, bsz_right, bsz_fin, bsz_b0, Txt0.size_list, ba_list, lf_lng, rd3]; omega)) (by (decide))) (fun r hr => ?_)) | (show Jo _ (.call ⟨.value (.func 24), _, _⟩); refine jcall (ι := Row) (v := fun _ => .tuple #[]) (m' := fun r' => bkS g _ r' []) (fun r' => BkOk _ r' _) bo24 rfl rfl rfl (putB_calls hg hr (by (simp [bsz_left, bsz_put, bsz_as, bsz_pass, bsz_right, bsz_fin, bsz_b0, Txt0.size_list, ba_list, lf_lng, rd3]; omega)) (by decide) (by (omega)) (by (assumption))) (fun r hr => ?_))) | (show Jo (some 58) (.indexAddr _ _ _); refine jy (yat (p' := ad.add j) rfl rfl Lw.und24 Lw.sz9 (by omega) (by omega) (by simp)) rfl rfl ?_) | (show Jo (some 65) (.indexAddr _ _ _); refine jy (yat (p' := ak.add j) rfl rfl Lw.und24 Lw.sz9 (by omega) (by omega) (by simp)) rfl rfl ?_)))
    exact fin (hk r hr (by simp [bsz_put, bsz_pass]; omega)) ⟨rfl, rfl, rfl, rfl, rfl, rfl, trivial⟩ rfl
  · obtain rfl : j = vs.length := by omega
    have htell : told (((B.pass [32]).right md).fin).s false true = (((B.pass [32]).right md).fin).l := by
      have hzl : ((txs ks).zip (txs vs)).take vs.length = (txs ks).zip (txs vs) := List.take_of_length_le (by simp [txs]; omega)
      rw [← hB, hzl, ← hB0]
      refine Eq.trans ?_ (told_of (law_namedb ea_env tra_env true md hb.1 ((txs ks).zip (txs vs)) (fun p hp => ?_)))
      · congr 1
        show (((((((txs ks).zip (txs vs)).foldl bnb _).s) ++ [32]) ++ rd md) ++ []) = _
        rw [fold_s (g := fun p => 32 :: (p.1 ++ 61 :: p.2)) (fun b v => by show (((b.s ++ [32]) ++ v.1) ++ [61]) ++ v.2 = _; simp)]
        simp [nbS, Book.put, Book.left, Book.as_, b0]
      · have h1 := List.of_mem_zip hp
        exact ⟨mem_txs (p := BareT) (fun x hx => (hbk x hx).1) _ h1.1, mem_txs (p := BareT) (fun x hx => (hbv x hx).1) _ h1.2⟩
    repeat' (first | refine cseq ?_ | refine rtext ?_ | refine cfalse rfl ?_ | refine cret ?_ | refine cexit ?_ | refine jnil ?_ | (first | refine jmv rfl rfl rfl ?_ | refine jas_ rfl rfl rfl ?_ | (show Jo _ (.binOp _ _ _ _ _); (refine jy (ylss rfl rfl (by (exact decide_eq_false (by omega)))) rfl rfl ?_)) | (show Jo _ (.call _); first | (show Jo _ (.call ⟨.value (.func 26), _, _⟩); refine jcall (ι := Row) (v := fun _ => .tuple #[]) (m' := fun r' => bkS g _ r' []) (fun r' => BkOk _ r' _) bo26 rfl rfl rfl (rightB_calls hg hr (by (simp [bsz_left, bsz_put, bsz_as, bsz_pass, bsz_right, bsz_fin, bsz_b0, Txt0.size_list, ba_list, lf_lng, rd3]; omega)) _) (fun r hr => ?_)) | (show Jo _ (.call ⟨.value (.func 27), _, _⟩); refine jcall (ι := Row) (v := fun _ => .tuple #[]) (m' := fun r' => bkS g _ r' []) (fun r' => BkOk _ r' _) bo27 rfl rfl rfl (endB_calls hg hr (by (simp [bsz_left, bsz_put, bsz_as, bsz_pass, bsz_right, bsz_fin, bsz_b0, Txt0.size_list, ba_list, lf_lng, rd3]; omega))) (fun r hr => ?_)) | (show Jo _ (.call ⟨.value (.func 25), _, _⟩); refine jcall (ι := Row) (v := fun _ => .tuple #[]) (m' := fun r' => bkS g _ r' []) (fun r' => BkOk _ r' _) bo25 rfl rfl rfl (passR_calls hg hr (by (omega)) (by (decide))) (fun r hr => ?_)) | (show Jo _ (.call ⟨.value (.func 19), _, _⟩); refine jcall0 (v := .bool true) (bkS g _ r []) bo19 rfl rfl rfl (tells_calls hW hr _ _ (by (simp [bsz_left, bsz_put, bsz_as, bsz_pass, bsz_right, bsz_fin, bsz_b0, Txt0.size_list, ba_list, lf_lng, rd3]; omega)) htell) ?_))))
    exact post _ _ rfl
end Go.Proofs.YtkehggbmpdacpaaGreatDoor.Pg
namespace Go.Proofs.YtkehggbmpdacpaaGreatDoor.PFnBareNamed
open Go.Rx Go.RowKit Go.Proofs.YtkehggbmpdacpaaGreatDoorW.PrintWords
theorem laws_FnBareNamed.calls (a0 : Bool) (a1 : ByteArray) (A2 : Option Addr) (c2 : Nat) (l2 : List ByteArray) (A3 : Option Addr) (c3 : Nat) (l3 : List ByteArray) (ret_ : Bool) (w : World) (hr2 : Kd.C Kd.string w A2 l2.length l2) (hc2 : l2.length ≤ c2) (hr3 : Kd.C Kd.string w A3 l3.length l3) (hc3 : l3.length ≤ c3) (h : ret_ = true ∧ a1.size ≤ 140737488351232 ∧ l2.length ≤ 8796093022208 ∧ l3.length ≤ 8796093022208 ∧ Pg.Tab w) :
    Calls Tryz.prog 5 #[.bool a0, .string a1, .slice A2 l2.length c2, .slice A3 l3.length c3] w fun e w' => e = .returned (.bool ret_) ∧ Below w.heap.size w w' := by
  obtain ⟨rfl, h1, h2, h3, hT⟩ := h
  exact Pg.bareNamed_calls a0 a1 A2 c2 l2 A3 c3 l3 w hT h1 (Lw.rowAt_of rfl hr2) h2 (Lw.rowAt_of rfl hr3) h3
end Go.Proofs.YtkehggbmpdacpaaGreatDoor.PFnBareNamed
