/- FnNamed: its walk. -/
import Derived.Test.YtkehggbmpdacpabGreatDoorLwAl
import Derived.Test.YtkehggbmpdacpabGreatDoorLwQs
import Derived.Test.YtkehggbmpdacpabGreatDoorKp15
set_option maxRecDepth 100000
set_option linter.unusedVariables false
set_option linter.unusedSimpArgs false
set_option linter.unusedSectionVars false
namespace Go.Proofs.YtkehggbmpdacpabGreatDoor.Pg
open Go.Rx hiding bt
open Go.RowKit Go.Proofs.YtkehggbmpdacpabGreatDoor.Dec0 Go.Proofs.YtkehggbmpdacpabGreatDoor.Lex0
set_option maxHeartbeats 2000000 in
theorem namedL_calls (md : Bool) (name : ByteArray) (K : Option Addr) (ck : Nat) (ks : List ByteArray) (A : Option Addr) (c : Nat) (vs : List ByteArray) (raw_ : Bool) (w : World) (hT : Tab w) (hs0 : name.size ≤ 140737488351232) (hak : RowAt nof w (.slice K ks.length ck) ks.length (Lw.strs ks)) (hlk : ks.length ≤ 8796093022208) (hav : RowAt nof w (.slice A vs.length c) vs.length (Lw.strs vs)) (hlv : vs.length ≤ 8796093022208) :
    Calls Tryz.prog 12 #[.bool md, .string name, .slice K ks.length ck, .slice A vs.length c, .bool raw_] w fun e w' => e = .returned (.bool true) ∧ Below w.heap.size w w' := by
  refine enter (fun _ => False) 94 [] Tryz.func12 rfl rfl rfl (vs := [.bool md, .string name, .slice K ks.length ck, .slice A vs.length c, .bool raw_]) (Has.nil _) ?_
  conv => arg 2; arg 2; whnf
  have hW : ∃ W, Bs W ⟨94, [], fun _ => False, w⟩ ∧ Tab W := ⟨w, ⟨Below.refl _ _, fun k h => h.elim⟩, hT⟩
  have hr := bk0 (X := ⟨94, [], fun _ => False, w⟩)
  have post : ∀ (f : Fr) (m : Mem), Rx.look f 10 = some (.bool true) → PJ ⟨94, [], fun _ => False, w⟩ (bodyPost Tryz.prog Tryz.f12 (fun e w' => e = .returned (.bool true) ∧ Below w.heap.size w w') .ret) f m := fun f m hf =>
    ret1 rfl rfl hf (fun w' hw' => ⟨rfl, hw'.2.below (fun k _ h => h) (Nat.le_refl _)⟩)
  cases raw_
  case false =>
    repeat' ((fail_if_success (show PJ _ (Code.wp _ (Code.loop _) _) _ _)); first | first | refine cseq ?_ | refine rtext ?_ | refine ctrue rfl ?_ | refine cfalse rfl ?_ | refine cskip ?_ | refine cblk ?_ | refine cret ?_ | refine tret ?_ | refine jnil ?_ | (first | refine js rfl rfl ?_ | refine jmv rfl rfl rfl ?_ | refine jas_ rfl rfl rfl ?_ | (show Jo _ (.binOp _ _ _ _ _); first | (show Jo _ (.binOp .gtr _ _ _ _); refine jgtr rfl rfl rfl rfl (fun hq => ?_) (fun hq => ?_)) | (show Jo _ (.binOp .neq 3 _ _ _); refine jneq rfl rfl rfl rfl (fun hq => ?_) (fun hq => ?_))) | (show Jo _ (.pick _ _ _); first | refine jy (ypick1 rfl rfl) rfl rfl ?_ | refine jy (ypick0 rfl rfl) rfl rfl ?_) | refine jy (ynot rfl rfl) rfl rfl ?_ | (show Jo _ (.call _); first | (show Jo _ (.call ⟨.builtin .len, _, #[9]⟩); refine jy (ylens rfl Lw.und9) rfl rfl ?_) | (show Jo _ (.call ⟨.builtin .len, _, _⟩); refine jy (ylenl rfl Lw.und24) rfl rfl ?_) | (show Jo _ (.call ⟨.value (.func 15), _, _⟩); refine jcall (ι := Bool) (v := fun b => .bool b) (m' := fun _ => _) (fun b => b = true → Lw.NameF _) Lw.boNm rfl rfl rfl (Lw.named_in (by omega)) (fun b hk => ?_); refine jcases (fun hb => ?_) (fun hb => ?_); try (replace hb := hk hb; have hna := hb.1.asc; have hns := hb.2)) | (show Jo (some 20) (.call ⟨.value (.func 14), _, _⟩); refine jcallq Lw.boFit rfl rfl rfl (Lw.fits3_in hak (fun _ h => h) (by omega)) ?_; refine jcases (fun hfk => ?_) (fun hfk => ?_)) | (show Jo (some 25) (.call ⟨.value (.func 14), _, _⟩); refine jcallq Lw.boFit rfl rfl rfl (Lw.fits3_in hav (fun _ h => h) (by omega)) ?_; refine jcases (fun hfv => ?_) (fun hfv => ?_)) | (show Jo (some 33) (.call ⟨.value (.func 36), _, _⟩); refine jcall (ι := Bool) (v := fun b => .bool b) (m' := fun _ => _) (fun b => b = true → ks.length ≤ 50 ∧ ∀ x ∈ ks, Lw.BareF x) Lw.boAl rfl rfl rfl (Lw.allNamed_in hak (fun _ h => h) (by omega) (Lw.fits3_all hfk)) (fun b hk => ?_); refine jcases (fun hbk => ?_) (fun hbk => ?_); try replace hbk := hk hbk) | (show Jo (some 38) (.call ⟨.value (.func 17), _, _⟩); refine jcall (ι := Bool) (v := fun b => .bool b) (m' := fun _ => _) (fun b => b = true → vs.length ≤ 50 ∧ ∀ x ∈ vs, Lw.QuoteF x) Lw.boQs rfl rfl rfl (Lw.quotables_in hav (fun _ h => h) (by omega) (Lw.fits3_all hfv)) (fun b hk => ?_); refine jcases (fun hbv => ?_) (fun hbv => ?_); try replace hbv := hk hbv) | (show Jo _ (.call ⟨.value (.func 18), _, _⟩); refine jcall (ι := Row) (v := fun _ => .tuple #[]) (m' := fun r' => bkS g _ r' []) (fun r' => BkOk _ r' _) bo23 rfl rfl rfl (leftB_calls hg hr (by (simp only [bsz_left, bsz_put, bsz_as, bsz_pass, bsz_right, bsz_fin, bsz_b0, Txt0.size_list, ba_list, lf_lng, rd3]; omega)) _) (fun r hr => ?_)) | (show Jo _ (.call ⟨.value (.func 19), _, _⟩); refine jcall (ι := Row) (v := fun _ => .tuple #[]) (m' := fun r' => bkS g _ r' []) (fun r' => BkOk _ r' _) bo24 rfl rfl rfl (putB_calls hg hr (by (simp only [bsz_left, bsz_put, bsz_as, bsz_pass, bsz_right, bsz_fin, bsz_b0, Txt0.size_list, ba_list, lf_lng, rd3]; omega)) (by decide) (by (omega)) (by (assumption))) (fun r hr => ?_))) | (show Jo _ (.build _ _); refine jy (ybuild rfl bu29) rfl rfl ?_) | (show Jo _ (.box 28 _); refine jbox (c := [.string ⟨#[]⟩, .slice none 0 0]) rfl rfl rfl (fun g hgT => ?_); refine jmem (m' := bkS g b0 .nil []) rfl ?_; have hg : Cx.may ⟨_, [], fun _ => False, w⟩ g := .inr hgT)))
    all_goals first | exact post _ _ rfl | skip
    obtain ⟨hl50, hbk⟩ := hbk
    obtain ⟨_, hbv⟩ := hbv
    have hlen : vs.length = ks.length := by omega
    obtain ⟨_, _, e, hak⟩ := hak
    cases e
    obtain ⟨_, _, e, hav⟩ := hav
    cases e
    have hsz : bsz ((b0.left md).put 13 name.data.toList) ≤ 1000 := by simp [bsz_left, bsz_put, bsz_b0]; omega
    generalize hB0 : (b0.left md).put 13 name.data.toList = B0 at hsz hr
    refine fin (f' := [(0, .bool md), (2, .slice K ks.length ck), (11, .pointer (some ⟨g, 0, none⟩)), (12, .string ⟨#[34]⟩), (57, .slice A vs.length c), (58, .int .i64 vs.length), (59, .int .i64 (0 : Nat))]) (m' := bkS g ((((txs ks).zip (txs vs)).take 0).foldl bnq B0) r [])
      (cloop (ι := Nat × Row) (fun q => [(0, .bool md), (2, .slice K ks.length ck), (11, .pointer (some ⟨g, 0, none⟩)), (12, .string ⟨#[34]⟩), (57, .slice A vs.length c), (58, .int .i64 vs.length), (59, .int .i64 (q.1 : Nat))]) (fun q => bkS g ((((txs ks).zip (txs vs)).take q.1).foldl bnq B0) q.2 []) (fun k q => k = vs.length - q.1 ∧ q.1 ≤ vs.length ∧ BkOk ⟨94, [], fun _ => False, w⟩ q.2 ((((txs ks).zip (txs vs)).take q.1).foldl bnq B0).l ∧ bsz ((((txs ks).zip (txs vs)).take q.1).foldl bnq B0) ≤ 1000 + 1200 * q.1 ∧ (∀ v ∈ (txs vs).take q.1, ∀ c ∈ v, c ≠ 96)) vs.length (0, r) ⟨rfl, Nat.zero_le _, hr, hsz, fun v hv => by cases hv⟩ ?_) ⟨rfl, rfl, rfl, rfl, rfl, rfl, rfl, trivial⟩ rfl
    rintro k ⟨j, r⟩ ⟨rfl, hj, hr, hsz, hall⟩ K0 hK
    dsimp only at hj hr hsz hall hK ⊢
    generalize hB : (((txs ks).zip (txs vs)).take j).foldl bnq B0 = B at hr hsz ⊢
    by_cases hlt : j < vs.length
    · obtain ⟨x, hx⟩ : ∃ x, vs[j]? = some x := ⟨_, List.getElem?_eq_getElem hlt⟩
      obtain ⟨y, hy⟩ : ∃ y, ks[j]? = some y := ⟨_, List.getElem?_eq_getElem (by omega)⟩
      have hxb := hbv x (List.mem_of_getElem? hx)
      have hyb := hbk y (List.mem_of_getElem? hy)
      have hxa := hxb.1.asc
      have hxs := hxb.2.1
      have hya := hyb.1.asc
      have hys := hyb.2.2
      obtain ⟨ad, rfl, _, hc⟩ := hav j (.string x) (by simp [Lw.strs, hx])
      obtain ⟨ak, rfl, _, hck⟩ := hak j (.string y) (by simp [Lw.strs, hy])
      have hk := fun r hr hs (h96 : Txt0.hasT [96] x.data.toList = false) => hK (vs.length - (j + 1)) (j + 1, r) (by omega) ⟨rfl, by omega, hr, hs, fun v hv => by
        rw [List.take_add_one, txs_at hx] at hv
        rcases List.mem_append.1 hv with h | h
        · exact hall v h
        · rw [Option.toList_some, List.mem_singleton] at h; subst h; exact Lw.has_one h96⟩
      have hz : ((txs ks).zip (txs vs))[j]? = some (y.data.toList, x.data.toList) := by rw [List.getElem?_zip_eq_some]; exact ⟨txs_at hy, txs_at hx⟩
      have e : (((txs ks).zip (txs vs)).take (j + 1)).foldl bnq B0 = (((((B.pass [32]).put 15 y.data.toList).pass [61, 34]).put 16 x.data.toList).pass [34]) := by rw [take_fold hz, hB]; rfl
      simp only [e] at hk
      repeat' (first | refine cseq ?_ | refine rtext ?_ | refine ctrue rfl ?_ | refine cfalse rfl ?_ | refine cskip ?_ | refine cblk ?_ | refine cret ?_ | refine tnorm ?_ | refine tret ?_ | refine bret ?_ | refine jnil ?_ | (first | refine jmv rfl rfl rfl ?_ | (show Jo _ (.load _ _); first | refine jy (yloadw rfl hc (fun h => h) Lw.one9) rfl rfl ?_ | refine jy (yloadw rfl hck (fun h => h) Lw.one9) rfl rfl ?_) | refine jas_ rfl rfl rfl ?_ | (show Jo _ (.binOp _ _ _ _ _); first | (show Jo _ (.binOp .add 3 _ _ _); refine jy (yadd (c := ((j + 1 : Nat) : Int)) rfl rfl (by rw [i64_in (by omega) (by omega)]; omega)) rfl rfl ?_) | (show Jo (some 76) (.binOp .add 9 _ _ _); refine jy (ysadd (c := ⟨#[61, 34]⟩) rfl rfl (by rw [bz1, bz1]; omega) rfl) rfl rfl ?_) | refine jy (ylss rfl rfl (by (exact decide_eq_true (by omega)))) rfl rfl ?_) | (show Jo _ (.call _); first | (show Jo _ (.call ⟨.value (.func 38), _, _⟩); refine jcallq Lw.boHas rfl rfl rfl (Lw.has_in (by omega) (by decide)) ?_; refine jcases (fun hh => ?_) (fun hh => ?_)) | (show Jo _ (.call ⟨.value (.func 20), _, _⟩); refine jcall (ι := Row) (v := fun _ => .tuple #[]) (m' := fun r' => bkS g _ r' []) (fun r' => BkOk _ r' _) bo25 rfl rfl rfl (passR_calls hg hr (by first | omega | (simp [bsz_left, bsz_put, bsz_as, bsz_pass, bsz_right, bsz_fin, bsz_b0, Txt0.size_list, ba_list, lf_lng, rd3]; omega)) (by (decide))) (fun r hr => ?_)) | (show Jo _ (.call ⟨.value (.func 19), _, _⟩); refine jcall (ι := Row) (v := fun _ => .tuple #[]) (m' := fun r' => bkS g _ r' []) (fun r' => BkOk _ r' _) bo24 rfl rfl rfl (putB_calls hg hr (by (simp [bsz_left, bsz_put, bsz_as, bsz_pass, bsz_right, bsz_fin, bsz_b0, Txt0.size_list, ba_list, lf_lng, rd3]; omega)) (by decide) (by (omega)) (by (assumption))) (fun r hr => ?_))) | (show Jo (some 62) (.indexAddr _ _ _); refine jy (yat (p' := ad.add j) rfl rfl Lw.und24 Lw.sz9 (by omega) (by omega) (by simp)) rfl rfl ?_) | (show Jo (some 71) (.indexAddr _ _ _); refine jy (yat (p' := ak.add j) rfl rfl Lw.und24 Lw.sz9 (by omega) (by omega) (by simp)) rfl rfl ?_)))
      all_goals first | exact post _ _ rfl | exact fin (hk r hr (by simp [bsz_put, bsz_pass]; omega) hh) ⟨rfl, rfl, rfl, rfl, rfl, rfl, rfl, trivial⟩ rfl
    · obtain rfl : j = vs.length := by omega
      have htell : told (((B.pass [32]).right md).fin).s false true = (((B.pass [32]).right md).fin).l := by
        have hzl : ((txs ks).zip (txs vs)).take vs.length = (txs ks).zip (txs vs) := List.take_of_length_le (by simp [txs]; omega)
        have hvl : (txs vs).take vs.length = txs vs := take_txs vs
        rw [hvl] at hall
        rw [← hB, hzl, ← hB0]
        refine Eq.trans ?_ (told_of (law_namedq ea_env tra_env true md hb.1 ((txs ks).zip (txs vs)) (fun p hp => ?_)))
        · congr 1
          show (((((((txs ks).zip (txs vs)).foldl bnq _).s) ++ [32]) ++ rd md) ++ []) = _
          rw [fold_s (g := fun p => 32 :: (p.1 ++ 61 :: 34 :: (p.2 ++ [34]))) (fun b v => by show ((((b.s ++ [32]) ++ v.1) ++ [61, 34]) ++ v.2) ++ [34] = _; simp)]
          simp [nqS, Book.put, Book.left, Book.as_, b0]
        · have h1 := List.of_mem_zip hp
          exact ⟨mem_txs (p := BareT) (fun x hx => (hbk x hx).1) _ h1.1, mem_txs (p := QT) (fun x hx => (hbv x hx).1) _ h1.2⟩
      repeat' (first | refine cseq ?_ | refine rtext ?_ | refine cfalse rfl ?_ | refine cret ?_ | refine cexit ?_ | refine jnil ?_ | (first | refine jmv rfl rfl rfl ?_ | refine jas_ rfl rfl rfl ?_ | (show Jo _ (.binOp _ _ _ _ _); refine jy (ylss rfl rfl (by (exact decide_eq_false (by omega)))) rfl rfl ?_) | (show Jo _ (.call _); first | (show Jo _ (.call ⟨.value (.func 22), _, _⟩); refine jcall (ι := Row) (v := fun _ => .tuple #[]) (m' := fun r' => bkS g _ r' []) (fun r' => BkOk _ r' _) bo26 rfl rfl rfl (rightB_calls hg hr (by (simp [bsz_left, bsz_put, bsz_as, bsz_pass, bsz_right, bsz_fin, bsz_b0, Txt0.size_list, ba_list, lf_lng, rd3]; omega)) _) (fun r hr => ?_)) | (show Jo _ (.call ⟨.value (.func 23), _, _⟩); refine jcall (ι := Row) (v := fun _ => .tuple #[]) (m' := fun r' => bkS g _ r' []) (fun r' => BkOk _ r' _) bo27 rfl rfl rfl (endB_calls hg hr (by (simp [bsz_left, bsz_put, bsz_as, bsz_pass, bsz_right, bsz_fin, bsz_b0, Txt0.size_list, ba_list, lf_lng, rd3]; omega))) (fun r hr => ?_)) | (show Jo _ (.call ⟨.value (.func 20), _, _⟩); refine jcall (ι := Row) (v := fun _ => .tuple #[]) (m' := fun r' => bkS g _ r' []) (fun r' => BkOk _ r' _) bo25 rfl rfl rfl (passR_calls hg hr (by (omega)) (by (decide))) (fun r hr => ?_)) | (show Jo _ (.call ⟨.value (.func 24), _, _⟩); refine jcall0 (v := .bool true) (bkS g _ r []) bo19 rfl rfl rfl (tells_calls hW hr _ _ (by (simp [bsz_left, bsz_put, bsz_as, bsz_pass, bsz_right, bsz_fin, bsz_b0, Txt0.size_list, ba_list, lf_lng, rd3]; omega)) htell) ?_))))
      exact post _ _ rfl
  case true =>
    repeat' ((fail_if_success (show PJ _ (Code.wp _ (Code.loop _) _) _ _)); first | first | refine cseq ?_ | refine rtext ?_ | refine ctrue rfl ?_ | refine cfalse rfl ?_ | refine cskip ?_ | refine cblk ?_ | refine cret ?_ | refine tret ?_ | refine jnil ?_ | (first | refine js rfl rfl ?_ | refine jmv rfl rfl rfl ?_ | refine jas_ rfl rfl rfl ?_ | (show Jo _ (.binOp _ _ _ _ _); first | (show Jo _ (.binOp .gtr _ _ _ _); refine jgtr rfl rfl rfl rfl (fun hq => ?_) (fun hq => ?_)) | (show Jo _ (.binOp .neq 3 _ _ _); refine jneq rfl rfl rfl rfl (fun hq => ?_) (fun hq => ?_))) | (show Jo _ (.pick _ _ _); first | refine jy (ypick1 rfl rfl) rfl rfl ?_ | refine jy (ypick0 rfl rfl) rfl rfl ?_) | refine jy (ynot rfl rfl) rfl rfl ?_ | (show Jo _ (.call _); first | (show Jo _ (.call ⟨.builtin .len, _, #[9]⟩); refine jy (ylens rfl Lw.und9) rfl rfl ?_) | (show Jo _ (.call ⟨.builtin .len, _, _⟩); refine jy (ylenl rfl Lw.und24) rfl rfl ?_) | (show Jo _ (.call ⟨.value (.func 15), _, _⟩); refine jcall (ι := Bool) (v := fun b => .bool b) (m' := fun _ => _) (fun b => b = true → Lw.NameF _) Lw.boNm rfl rfl rfl (Lw.named_in (by omega)) (fun b hk => ?_); refine jcases (fun hb => ?_) (fun hb => ?_); try (replace hb := hk hb; have hna := hb.1.asc; have hns := hb.2)) | (show Jo (some 20) (.call ⟨.value (.func 14), _, _⟩); refine jcallq Lw.boFit rfl rfl rfl (Lw.fits3_in hak (fun _ h => h) (by omega)) ?_; refine jcases (fun hfk => ?_) (fun hfk => ?_)) | (show Jo (some 25) (.call ⟨.value (.func 14), _, _⟩); refine jcallq Lw.boFit rfl rfl rfl (Lw.fits3_in hav (fun _ h => h) (by omega)) ?_; refine jcases (fun hfv => ?_) (fun hfv => ?_)) | (show Jo (some 33) (.call ⟨.value (.func 36), _, _⟩); refine jcall (ι := Bool) (v := fun b => .bool b) (m' := fun _ => _) (fun b => b = true → ks.length ≤ 50 ∧ ∀ x ∈ ks, Lw.BareF x) Lw.boAl rfl rfl rfl (Lw.allNamed_in hak (fun _ h => h) (by omega) (Lw.fits3_all hfk)) (fun b hk => ?_); refine jcases (fun hbk => ?_) (fun hbk => ?_); try replace hbk := hk hbk) | (show Jo (some 38) (.call ⟨.value (.func 17), _, _⟩); refine jcall (ι := Bool) (v := fun b => .bool b) (m' := fun _ => _) (fun b => b = true → vs.length ≤ 50 ∧ ∀ x ∈ vs, Lw.QuoteF x) Lw.boQs rfl rfl rfl (Lw.quotables_in hav (fun _ h => h) (by omega) (Lw.fits3_all hfv)) (fun b hk => ?_); refine jcases (fun hbv => ?_) (fun hbv => ?_); try replace hbv := hk hbv) | (show Jo _ (.call ⟨.value (.func 18), _, _⟩); refine jcall (ι := Row) (v := fun _ => .tuple #[]) (m' := fun r' => bkS g _ r' []) (fun r' => BkOk _ r' _) bo23 rfl rfl rfl (leftB_calls hg hr (by (simp only [bsz_left, bsz_put, bsz_as, bsz_pass, bsz_right, bsz_fin, bsz_b0, Txt0.size_list, ba_list, lf_lng, rd3]; omega)) _) (fun r hr => ?_)) | (show Jo _ (.call ⟨.value (.func 19), _, _⟩); refine jcall (ι := Row) (v := fun _ => .tuple #[]) (m' := fun r' => bkS g _ r' []) (fun r' => BkOk _ r' _) bo24 rfl rfl rfl (putB_calls hg hr (by (simp only [bsz_left, bsz_put, bsz_as, bsz_pass, bsz_right, bsz_fin, bsz_b0, Txt0.size_list, ba_list, lf_lng, rd3]; omega)) (by decide) (by (omega)) (by (assumption))) (fun r hr => ?_))) | (show Jo _ (.build _ _); refine jy (ybuild rfl bu29) rfl rfl ?_) | (show Jo _ (.box 28 _); refine jbox (c := [.string ⟨#[]⟩, .slice none 0 0]) rfl rfl rfl (fun g hgT => ?_); refine jmem (m' := bkS g b0 .nil []) rfl ?_; have hg : Cx.may ⟨_, [], fun _ => False, w⟩ g := .inr hgT)))
    all_goals first | exact post _ _ rfl | skip
    obtain ⟨hl50, hbk⟩ := hbk
    obtain ⟨_, hbv⟩ := hbv
    have hlen : vs.length = ks.length := by omega
    obtain ⟨_, _, e, hak⟩ := hak
    cases e
    obtain ⟨_, _, e, hav⟩ := hav
    cases e
    have hsz : bsz ((b0.left md).put 13 name.data.toList) ≤ 1000 := by simp [bsz_left, bsz_put, bsz_b0]; omega
    generalize hB0 : (b0.left md).put 13 name.data.toList = B0 at hsz hr
    refine fin (f' := [(0, .bool md), (2, .slice K ks.length ck), (11, .pointer (some ⟨g, 0, none⟩)), (12, .string ⟨#[96]⟩), (57, .slice A vs.length c), (58, .int .i64 vs.length), (59, .int .i64 (0 : Nat))]) (m' := bkS g ((((txs ks).zip (txs vs)).take 0).foldl bnr B0) r [])
      (cloop (ι := Nat × Row) (fun q => [(0, .bool md), (2, .slice K ks.length ck), (11, .pointer (some ⟨g, 0, none⟩)), (12, .string ⟨#[96]⟩), (57, .slice A vs.length c), (58, .int .i64 vs.length), (59, .int .i64 (q.1 : Nat))]) (fun q => bkS g ((((txs ks).zip (txs vs)).take q.1).foldl bnr B0) q.2 []) (fun k q => k = vs.length - q.1 ∧ q.1 ≤ vs.length ∧ BkOk ⟨94, [], fun _ => False, w⟩ q.2 ((((txs ks).zip (txs vs)).take q.1).foldl bnr B0).l ∧ bsz ((((txs ks).zip (txs vs)).take q.1).foldl bnr B0) ≤ 1000 + 1200 * q.1 ∧ (∀ v ∈ (txs vs).take q.1, ∀ c ∈ v, c ≠ 96)) vs.length (0, r) ⟨rfl, Nat.zero_le _, hr, hsz, fun v hv => by cases hv⟩ ?_) ⟨rfl, rfl, rfl, rfl, rfl, rfl, rfl, trivial⟩ rfl
    rintro k ⟨j, r⟩ ⟨rfl, hj, hr, hsz, hall⟩ K0 hK
    dsimp only at hj hr hsz hall hK ⊢
    generalize hB : (((txs ks).zip (txs vs)).take j).foldl bnr B0 = B at hr hsz ⊢
    by_cases hlt : j < vs.length
    · obtain ⟨x, hx⟩ : ∃ x, vs[j]? = some x := ⟨_, List.getElem?_eq_getElem hlt⟩
      obtain ⟨y, hy⟩ : ∃ y, ks[j]? = some y := ⟨_, List.getElem?_eq_getElem (by omega)⟩
      have hxb := hbv x (List.mem_of_getElem? hx)
      have hyb := hbk y (List.mem_of_getElem? hy)
      have hxa := hxb.1.asc
      have hxs := hxb.2.1
      have hya := hyb.1.asc
      have hys := hyb.2.2
      obtain ⟨ad, rfl, _, hc⟩ := hav j (.string x) (by simp [Lw.strs, hx])
      obtain ⟨ak, rfl, _, hck⟩ := hak j (.string y) (by simp [Lw.strs, hy])
      have hk := fun r hr hs (h96 : Txt0.hasT [96] x.data.toList = false) => hK (vs.length - (j + 1)) (j + 1, r) (by omega) ⟨rfl, by omega, hr, hs, fun v hv => by
        rw [List.take_add_one, txs_at hx] at hv
        rcases List.mem_append.1 hv with h | h
        · exact hall v h
        · rw [Option.toList_some, List.mem_singleton] at h; subst h; exact Lw.has_one h96⟩
      have hz : ((txs ks).zip (txs vs))[j]? = some (y.data.toList, x.data.toList) := by rw [List.getElem?_zip_eq_some]; exact ⟨txs_at hy, txs_at hx⟩
      have e : (((txs ks).zip (txs vs)).take (j + 1)).foldl bnr B0 = (((((B.pass [32]).put 15 y.data.toList).pass [61, 96]).put 16 x.data.toList).pass [96]) := by rw [take_fold hz, hB]; rfl
      simp only [e] at hk
      repeat' (first | refine cseq ?_ | refine rtext ?_ | refine ctrue rfl ?_ | refine cfalse rfl ?_ | refine cskip ?_ | refine cblk ?_ | refine cret ?_ | refine tnorm ?_ | refine tret ?_ | refine bret ?_ | refine jnil ?_ | (first | refine jmv rfl rfl rfl ?_ | (show Jo _ (.load _ _); first | refine jy (yloadw rfl hc (fun h => h) Lw.one9) rfl rfl ?_ | refine jy (yloadw rfl hck (fun h => h) Lw.one9) rfl rfl ?_) | refine jas_ rfl rfl rfl ?_ | (show Jo _ (.binOp _ _ _ _ _); first | (show Jo _ (.binOp .add 3 _ _ _); refine jy (yadd (c := ((j + 1 : Nat) : Int)) rfl rfl (by rw [i64_in (by omega) (by omega)]; omega)) rfl rfl ?_) | (show Jo (some 76) (.binOp .add 9 _ _ _); refine jy (ysadd (c := ⟨#[61, 96]⟩) rfl rfl (by rw [bz1, bz1]; omega) rfl) rfl rfl ?_) | refine jy (ylss rfl rfl (by (exact decide_eq_true (by omega)))) rfl rfl ?_) | (show Jo _ (.call _); first | (show Jo _ (.call ⟨.value (.func 38), _, _⟩); refine jcallq Lw.boHas rfl rfl rfl (Lw.has_in (by omega) (by decide)) ?_; refine jcases (fun hh => ?_) (fun hh => ?_)) | (show Jo _ (.call ⟨.value (.func 20), _, _⟩); refine jcall (ι := Row) (v := fun _ => .tuple #[]) (m' := fun r' => bkS g _ r' []) (fun r' => BkOk _ r' _) bo25 rfl rfl rfl (passR_calls hg hr (by first | omega | (simp [bsz_left, bsz_put, bsz_as, bsz_pass, bsz_right, bsz_fin, bsz_b0, Txt0.size_list, ba_list, lf_lng, rd3]; omega)) (by (decide))) (fun r hr => ?_)) | (show Jo _ (.call ⟨.value (.func 19), _, _⟩); refine jcall (ι := Row) (v := fun _ => .tuple #[]) (m' := fun r' => bkS g _ r' []) (fun r' => BkOk _ r' _) bo24 rfl rfl rfl (putB_calls hg hr (by (simp [bsz_left, bsz_put, bsz_as, bsz_pass, bsz_right, bsz_fin, bsz_b0, Txt0.size_list, ba_list, lf_lng, rd3]; omega)) (by decide) (by (omega)) (by (assumption))) (fun r hr => ?_))) | (show Jo (some 62) (.indexAddr _ _ _); refine jy (yat (p' := ad.add j) rfl rfl Lw.und24 Lw.sz9 (by omega) (by omega) (by simp)) rfl rfl ?_) | (show Jo (some 71) (.indexAddr _ _ _); refine jy (yat (p' := ak.add j) rfl rfl Lw.und24 Lw.sz9 (by omega) (by omega) (by simp)) rfl rfl ?_)))
      all_goals first | exact post _ _ rfl | exact fin (hk r hr (by simp [bsz_put, bsz_pass]; omega) hh) ⟨rfl, rfl, rfl, rfl, rfl, rfl, rfl, trivial⟩ rfl
    · obtain rfl : j = vs.length := by omega
      have htell : told (((B.pass [32]).right md).fin).s false true = (((B.pass [32]).right md).fin).l := by
        have hzl : ((txs ks).zip (txs vs)).take vs.length = (txs ks).zip (txs vs) := List.take_of_length_le (by simp [txs]; omega)
        have hvl : (txs vs).take vs.length = txs vs := take_txs vs
        rw [hvl] at hall
        rw [← hB, hzl, ← hB0]
        refine Eq.trans ?_ (told_of (law_namedr ea_env tra_env true md hb.1 ((txs ks).zip (txs vs)) (fun p hp => ?_)))
        · congr 1
          show (((((((txs ks).zip (txs vs)).foldl bnr _).s) ++ [32]) ++ rd md) ++ []) = _
          rw [fold_s (g := fun p => 32 :: (p.1 ++ 61 :: 96 :: (p.2 ++ [96]))) (fun b v => by show ((((b.s ++ [32]) ++ v.1) ++ [61, 96]) ++ v.2) ++ [96] = _; simp)]
          simp [nrS, Book.put, Book.left, Book.as_, b0]
        · have h1 := List.of_mem_zip hp
          exact ⟨mem_txs (p := BareT) (fun x hx => (hbk x hx).1) _ h1.1, (mem_txs (p := QT) (fun x hx => (hbv x hx).1) _ h1.2).asc, hall _ h1.2⟩
      repeat' (first | refine cseq ?_ | refine rtext ?_ | refine cfalse rfl ?_ | refine cret ?_ | refine cexit ?_ | refine jnil ?_ | (first | refine jmv rfl rfl rfl ?_ | refine jas_ rfl rfl rfl ?_ | (show Jo _ (.binOp _ _ _ _ _); refine jy (ylss rfl rfl (by (exact decide_eq_false (by omega)))) rfl rfl ?_) | (show Jo _ (.call _); first | (show Jo _ (.call ⟨.value (.func 22), _, _⟩); refine jcall (ι := Row) (v := fun _ => .tuple #[]) (m' := fun r' => bkS g _ r' []) (fun r' => BkOk _ r' _) bo26 rfl rfl rfl (rightB_calls hg hr (by (simp [bsz_left, bsz_put, bsz_as, bsz_pass, bsz_right, bsz_fin, bsz_b0, Txt0.size_list, ba_list, lf_lng, rd3]; omega)) _) (fun r hr => ?_)) | (show Jo _ (.call ⟨.value (.func 23), _, _⟩); refine jcall (ι := Row) (v := fun _ => .tuple #[]) (m' := fun r' => bkS g _ r' []) (fun r' => BkOk _ r' _) bo27 rfl rfl rfl (endB_calls hg hr (by (simp [bsz_left, bsz_put, bsz_as, bsz_pass, bsz_right, bsz_fin, bsz_b0, Txt0.size_list, ba_list, lf_lng, rd3]; omega))) (fun r hr => ?_)) | (show Jo _ (.call ⟨.value (.func 20), _, _⟩); refine jcall (ι := Row) (v := fun _ => .tuple #[]) (m' := fun r' => bkS g _ r' []) (fun r' => BkOk _ r' _) bo25 rfl rfl rfl (passR_calls hg hr (by (omega)) (by (decide))) (fun r hr => ?_)) | (show Jo _ (.call ⟨.value (.func 24), _, _⟩); refine jcall0 (v := .bool true) (bkS g _ r []) bo19 rfl rfl rfl (tells_calls hW hr _ _ (by (simp [bsz_left, bsz_put, bsz_as, bsz_pass, bsz_right, bsz_fin, bsz_b0, Txt0.size_list, ba_list, lf_lng, rd3]; omega)) htell) ?_))))
      exact post _ _ rfl
end Go.Proofs.YtkehggbmpdacpabGreatDoor.Pg
namespace Go.Proofs.YtkehggbmpdacpabGreatDoor.PFnNamed
open Go.Rx Go.RowKit Go.Proofs.YtkehggbmpdacpabGreatDoorW.PrintWords
theorem laws_FnNamed.calls (a0 : Bool) (a1 : ByteArray) (A2 : Option Addr) (c2 : Nat) (l2 : List ByteArray) (A3 : Option Addr) (c3 : Nat) (l3 : List ByteArray) (a4 : Bool) (ret_ : Bool) (w : World) (hr2 : Kd.C Kd.string w A2 l2.length l2) (hc2 : l2.length ≤ c2) (hr3 : Kd.C Kd.string w A3 l3.length l3) (hc3 : l3.length ≤ c3) (h : ret_ = true ∧ a1.size ≤ 140737488351232 ∧ l2.length ≤ 8796093022208 ∧ l3.length ≤ 8796093022208 ∧ Pg.Tab w) :
    Calls Tryz.prog 12 #[.bool a0, .string a1, .slice A2 l2.length c2, .slice A3 l3.length c3, .bool a4] w fun e w' => e = .returned (.bool ret_) ∧ Below w.heap.size w w' := by
  obtain ⟨rfl, h1, h2, h3, hT⟩ := h
  exact Pg.namedL_calls a0 a1 A2 c2 l2 A3 c3 l3 a4 w hT h1 (Lw.rowAt_of rfl hr2) h2 (Lw.rowAt_of rfl hr3) h3
end Go.Proofs.YtkehggbmpdacpabGreatDoor.PFnNamed
