/- FnEscaped: its walk. -/
import Derived.Test.YtkehggbmpdacpabGreatDoorLwQs
import Derived.Test.YtkehggbmpdacpabGreatDoorPl4
import Derived.Test.YtkehggbmpdacpabGreatDoorKp15
set_option maxRecDepth 100000
set_option linter.unusedVariables false
set_option linter.unusedSimpArgs false
set_option linter.unusedSectionVars false
namespace Go.Proofs.YtkehggbmpdacpabGreatDoor.Pg
open Go.Rx hiding bt
open Go.RowKit Go.Proofs.YtkehggbmpdacpabGreatDoor.Dec0 Go.Proofs.YtkehggbmpdacpabGreatDoor.Lex0
theorem escT_app (a b : T) : escT (a ++ b) = escT a ++ escT b := by unfold escT; rw [List.flatMap_append]
def tdT (first : T) (l : List T) : T := first ++ l.flatMap fun v => 34 :: v
theorem tdT_next {first x : T} {l : List T} {j : Nat} (h : l[j]? = some x) : tdT first (l.take (j + 1)) = tdT first (l.take j) ++ 34 :: x := by
  unfold tdT
  rw [List.take_add_one, h]
  simp
set_option maxHeartbeats 4000000 in
theorem escaped_calls (name first_ : ByteArray) (A : Option Addr) (c : Nat) (l : List ByteArray) (w : World) (hT : Tab w) (hs0 : name.size ≤ 140737488351232) (hs1 : first_.size ≤ 140737488351232) (ha : RowAt nof w (.slice A l.length c) l.length (Lw.strs l)) (hl : l.length ≤ 8796093022208) :
    Calls Tryz.prog 3 #[.string name, .string first_, .slice A l.length c] w fun e w' => e = .returned (.bool true) ∧ Below w.heap.size w w' := by
  refine enter (fun _ => False) 80 [] Tryz.func3 rfl rfl rfl (vs := [.string name, .string first_, .slice A l.length c]) (Has.nil _) ?_
  conv => arg 2; arg 2; whnf
  have hW : ∃ W, Bs W ⟨80, [], fun _ => False, w⟩ ∧ Tab W := ⟨w, ⟨Below.refl _ _, fun k h => h.elim⟩, hT⟩
  have hr := bk0 (X := ⟨80, [], fun _ => False, w⟩)
  have post : ∀ (f : Fr) (m : Mem), Rx.look f 6 = some (.bool true) → PJ ⟨80, [], fun _ => False, w⟩ (bodyPost Tryz.prog Tryz.f3 (fun e w' => e = .returned (.bool true) ∧ Below w.heap.size w w') .ret) f m := fun f m hf =>
    ret1 rfl rfl hf (fun w' hw' => ⟨rfl, hw'.2.below (fun k _ h => h) (Nat.le_refl _)⟩)
  repeat' ((fail_if_success (show PJ _ (Code.wp _ (Code.loop _) _) _ _)); first | first | refine cseq ?_ | refine rtext ?_ | refine ctrue rfl ?_ | refine cfalse rfl ?_ | refine cskip ?_ | refine cblk ?_ | refine cret ?_ | refine tret ?_ | refine jnil ?_ | (first | refine js rfl rfl ?_ | refine jmv rfl rfl rfl ?_ | refine jas_ rfl rfl rfl ?_ | (show Jo _ (.binOp _ _ _ _ _); first | (show Jo _ (.binOp .gtr _ _ _ _); refine jgtr rfl rfl rfl rfl (fun hq => ?_) (fun hq => ?_)) | (show Jo _ (.binOp .eql 9 _ _ _); refine jseql rfl rfl rfl rfl (fun hne => ?_) (fun hne => ?_))) | (show Jo _ (.pick _ _ _); first | refine jy (ypick1 rfl rfl) rfl rfl ?_ | refine jy (ypick0 rfl rfl) rfl rfl ?_) | refine jy (ynot rfl rfl) rfl rfl ?_ | (show Jo _ (.call _); first | (show Jo _ (.call ⟨.builtin .len, _, #[9]⟩); refine jy (ylens rfl Lw.und9) rfl rfl ?_) | (show Jo _ (.call ⟨.builtin .len, _, _⟩); refine jy (ylenl rfl Lw.und24) rfl rfl ?_) | (show Jo _ (.call ⟨.value (.func 15), _, _⟩); refine jcall (ι := Bool) (v := fun b => .bool b) (m' := fun _ => _) (fun b => b = true → Lw.NameF _) Lw.boNm rfl rfl rfl (Lw.named_in (by omega)) (fun b hk => ?_); refine jcases (fun hb => ?_) (fun hb => ?_); try (replace hb := hk hb; have hna := hb.1.asc; have hns := hb.2)) | (show Jo _ (.call ⟨.value (.func 16), _, _⟩); refine jcall (ι := Bool) (v := fun b => .bool b) (m' := fun _ => _) (fun b => b = true → Lw.QuoteF _) Lw.boQt rfl rfl rfl (Lw.quotable_in (by omega)) (fun b hk => ?_); refine jcases (fun hv => ?_) (fun hv => ?_); try (replace hv := hk hv; have hva := hv.1.asc; have hvs := hv.2.1)) | (show Jo _ (.call ⟨.value (.func 14), _, _⟩); refine jcallq Lw.boFit rfl rfl rfl (Lw.fits3_in ha (fun _ h => h) (by omega)) ?_; refine jcases (fun hf => ?_) (fun hf => ?_)) | (show Jo _ (.call ⟨.value (.func 17), _, _⟩); refine jcall (ι := Bool) (v := fun b => .bool b) (m' := fun _ => _) (fun b => b = true → l.length ≤ 50 ∧ ∀ x ∈ l, Lw.QuoteF x) Lw.boQs rfl rfl rfl (Lw.quotables_in ha (fun _ h => h) (by omega) (Lw.fits3_all hf)) (fun b hk => ?_); refine jcases (fun hbs => ?_) (fun hbs => ?_); try replace hbs := hk hbs) | (show Jo _ (.call ⟨.value (.func 18), _, _⟩); refine jcall (ι := Row) (v := fun _ => .tuple #[]) (m' := fun r' => bkS g _ r' []) (fun r' => BkOk _ r' _) bo23 rfl rfl rfl (leftB_calls hg hr (by (simp only [bsz_left, bsz_put, bsz_as, bsz_pass, bsz_right, bsz_fin, bsz_b0, Txt0.size_list, ba_list, lf_lng, rd3]; omega)) _) (fun r hr => ?_)) | (show Jo _ (.call ⟨.value (.func 20), _, _⟩); refine jcall (ι := Row) (v := fun _ => .tuple #[]) (m' := fun r' => bkS g _ r' []) (fun r' => BkOk _ r' _) bo25 rfl rfl rfl (passR_calls hg hr (by (simp only [bsz_left, bsz_put, bsz_as, bsz_pass, bsz_right, bsz_fin, bsz_b0, Txt0.size_list, ba_list, lf_lng, rd3]; omega)) (by (decide))) (fun r hr => ?_)) | (show Jo _ (.call ⟨.value (.func 19), _, _⟩); refine jcall (ι := Row) (v := fun _ => .tuple #[]) (m' := fun r' => bkS g _ r' []) (fun r' => BkOk _ r' _) bo24 rfl rfl rfl (putB_calls hg hr (by (simp only [bsz_left, bsz_put, bsz_as, bsz_pass, bsz_right, bsz_fin, bsz_b0, Txt0.size_list, ba_list, lf_lng, rd3]; omega)) (by decide) (by (omega)) (by (assumption))) (fun r hr => ?_))) | (show Jo _ (.build _ _); refine jy (ybuild rfl bu29) rfl rfl ?_) | (show Jo _ (.box 28 _); refine jbox (c := [.string ⟨#[]⟩, .slice none 0 0]) rfl rfl rfl (fun g hgT => ?_); refine jmem (m' := bkS g b0 .nil []) rfl ?_; have hg : Cx.may ⟨_, [], fun _ => False, w⟩ g := .inr hgT)))
  all_goals first | exact post _ _ rfl | skip
  obtain ⟨hl50, hbs⟩ := hbs
  obtain ⟨_, _, e, ha⟩ := ha
  cases e
  have hQ := mem_txs (p := QT) (fun x hx => (hbs x hx).1)
  have hne0 : first_.data.toList ≠ [] := fun h => hne (by rw [Txt0.data_inj]; exact h)
  have hVal : ∀ n, ValT (tdT first_.data.toList ((txs l).take n)) := by
    intro n
    have hm : ∀ v ∈ (txs l).take n, QT v := fun v h => hQ v (List.mem_of_mem_take h)
    refine ⟨asc_app hva (asc_flat fun v h => asc_cons (by decide) (hm v h).asc), fun c hc => ?_, ?_⟩
    · rcases List.mem_append.1 hc with h | h
      · exact ⟨(hv.1.q c h).1, (hv.1.q c h).2.1⟩
      · obtain ⟨v, h1, h2⟩ := List.mem_flatMap.1 h
        rcases List.mem_cons.1 h2 with rfl | h2
        · decide
        · exact ⟨((hm v h1).q c h2).1, ((hm v h1).q c h2).2.1⟩
    · cases h : first_.data.toList with
      | nil => exact absurd h hne0
      | cons a b =>
        intro he
        have : a = 34 := by simpa [tdT] using he
        exact (hv.1.q a (by rw [h]; exact List.mem_cons_self ..)).2.2 this
  have hsz0 : bsz (((b0.left false).put 13 name.data.toList).pass [32, 34]) ≤ 1000 := by simp [bsz_left, bsz_put, bsz_pass, bsz_b0]; omega
  generalize hB0 : ((b0.left false).put 13 name.data.toList).pass (⟨#[32, 34]⟩ : ByteArray).data.toList = B0 at hr ⊢
  replace hsz0 : bsz B0 ≤ 1000 := by rw [← hB0]; exact hsz0
  refine fin (f' := [(7, .pointer (some ⟨g, 0, none⟩)), (8, .string first_), (9, .string first_), (53, .slice A l.length c), (54, .int .i64 l.length), (55, .int .i64 (0 : Nat))]) (m' := bkS g B0 r [])
    (cloop (ι := Nat × ByteArray × ByteArray) (fun q => [(7, .pointer (some ⟨g, 0, none⟩)), (8, .string q.2.1), (9, .string q.2.2), (53, .slice A l.length c), (54, .int .i64 l.length), (55, .int .i64 (q.1 : Nat))]) (fun _ => bkS g B0 r []) (fun k q => k = l.length - q.1 ∧ q.1 ≤ l.length ∧ q.2.1.data.toList = escT (tdT first_.data.toList ((txs l).take q.1)) ∧ q.2.2.data.toList = tdT first_.data.toList ((txs l).take q.1) ∧ q.2.1.size ≤ 1000 + 1100 * q.1 ∧ q.2.2.size ≤ 1000 + 1100 * q.1) l.length (0, first_, first_) ⟨rfl, Nat.zero_le _, by simp [tdT, escT_plain fun c hc => (hv.1.q c hc).2.2], by simp [tdT], by dsimp only; omega, by dsimp only; omega⟩ ?_) ⟨rfl, rfl, rfl, rfl, rfl, rfl, trivial⟩ rfl
  rintro k ⟨j, tx, td⟩ ⟨rfl, hj, hX, hD, hxz, hdz⟩ K hK
  dsimp only at hj hX hD hxz hdz hK ⊢
  by_cases hlt : j < l.length
  · obtain ⟨x, hx⟩ : ∃ x, l[j]? = some x := ⟨_, List.getElem?_eq_getElem hlt⟩
    have hxq := hbs x (List.mem_of_getElem? hx)
    have hxs := hxq.2.1
    obtain ⟨ad, rfl, _, hc⟩ := ha j (.string x) (by simp [Lw.strs, hx])
    have hk := hK (l.length - (j + 1)) (j + 1, (tx ++ ⟨#[92, 34]⟩) ++ x, (td ++ ⟨#[34]⟩) ++ x) (by omega) ⟨rfl, by dsimp only; omega, by
      dsimp only
      rw [Txt0.app_list, Txt0.app_list, hX, tdT_next (txs_at hx), escT_app, List.append_assoc]
      congr 1
      show [92, 34] ++ x.data.toList = escT (34 :: x.data.toList)
      rw [show (34 :: x.data.toList : T) = [34] ++ x.data.toList from rfl, escT_app, escT_plain (v := x.data.toList) fun c hc => (hxq.1.q c hc).2.2]
      rfl, by
      dsimp only
      rw [Txt0.app_list, Txt0.app_list, hD, tdT_next (txs_at hx), List.append_assoc]
      rfl, by simp only [ByteArray.size_append, bz2]; omega, by simp only [ByteArray.size_append, bz1]; omega⟩
    dsimp only at hk
    repeat' (first | refine cseq ?_ | refine rtext ?_ | refine ctrue rfl ?_ | refine cskip ?_ | refine cblk ?_ | refine tnorm ?_ | refine jnil ?_ | (first | refine jmv rfl rfl rfl ?_ | (show Jo _ (.load _ _); refine jy (yloadw rfl hc (fun h => h) Lw.one9) rfl rfl ?_) | refine jas_ rfl rfl rfl ?_ | (show Jo _ (.binOp _ _ _ _ _); first | (show Jo _ (.binOp .add 9 _ _ _); refine jy (ysadd rfl rfl (by simp only [ByteArray.size_append, bz1, bz2]; omega) rfl) rfl rfl ?_) | (show Jo _ (.binOp .add 3 _ _ _); refine jy (yadd (c := ((j + 1 : Nat) : Int)) rfl rfl (by rw [i64_in (by omega) (by omega)]; omega)) rfl rfl ?_) | refine jy (ylss rfl rfl (by (exact decide_eq_true (by omega)))) rfl rfl ?_) | (show Jo _ (.indexAddr _ _ _); refine jy (yat (p' := ad.add j) rfl rfl Lw.und24 Lw.sz9 (by omega) (by omega) (by simp)) rfl rfl ?_)))
    exact fin hk ⟨rfl, rfl, rfl, rfl, rfl, rfl, trivial⟩ rfl
  · obtain rfl : j = l.length := by omega
    rw [take_txs] at hX hD
    have hV := hVal l.length
    rw [take_txs, ← hD] at hV
    rw [← hD] at hX
    have hta : asc td.data.toList := hV.asc
    have htell : told ((((B0.as_ 15 tx.data.toList td.data.toList).pass [34, 32]).right false).fin).s false true = ((((B0.as_ 15 tx.data.toList td.data.toList).pass [34, 32]).right false).fin).l := by
      rw [← hB0, hX]
      refine Eq.trans ?_ (told_of (law_escaped ea_env tra_env true false hb.1 td.data.toList hV))
      congr 1
      simp [Book.fin, Book.right, Book.left, Book.put, Book.pass, Book.as_, b0]
    repeat' (first | refine cseq ?_ | refine rtext ?_ | refine cfalse rfl ?_ | refine cret ?_ | refine cexit ?_ | refine jnil ?_ | (first | refine jmv rfl rfl rfl ?_ | refine jas_ rfl rfl rfl ?_ | (show Jo _ (.binOp _ _ _ _ _); refine jy (ylss rfl rfl (by (exact decide_eq_false (by omega)))) rfl rfl ?_) | (show Jo _ (.call _); first | (show Jo _ (.call ⟨.value (.func 21), _, _⟩); refine jcall (ι := Row) (v := fun _ => .tuple #[]) (m' := fun r' => bkS g _ r' []) (fun r' => BkOk _ r' _) bo39 rfl rfl rfl (asB_calls hg hr (by (omega)) (by decide) (by omega) (by omega) hta) (fun r hr => ?_)) | (show Jo _ (.call ⟨.value (.func 22), _, _⟩); refine jcall (ι := Row) (v := fun _ => .tuple #[]) (m' := fun r' => bkS g _ r' []) (fun r' => BkOk _ r' _) bo26 rfl rfl rfl (rightB_calls hg hr (by (simp [bsz_left, bsz_put, bsz_as, bsz_pass, bsz_right, bsz_fin, bsz_b0, Txt0.size_list, ba_list, lf_lng, rd3]; omega)) _) (fun r hr => ?_)) | (show Jo _ (.call ⟨.value (.func 23), _, _⟩); refine jcall (ι := Row) (v := fun _ => .tuple #[]) (m' := fun r' => bkS g _ r' []) (fun r' => BkOk _ r' _) bo27 rfl rfl rfl (endB_calls hg hr (by (simp [bsz_left, bsz_put, bsz_as, bsz_pass, bsz_right, bsz_fin, bsz_b0, Txt0.size_list, ba_list, lf_lng, rd3]; omega))) (fun r hr => ?_)) | (show Jo _ (.call ⟨.value (.func 20), _, _⟩); refine jcall (ι := Row) (v := fun _ => .tuple #[]) (m' := fun r' => bkS g _ r' []) (fun r' => BkOk _ r' _) bo25 rfl rfl rfl (passR_calls hg hr (by (simp only [bsz_left, bsz_put, bsz_as, bsz_pass, bsz_right, bsz_fin, bsz_b0, Txt0.size_list, ba_list, lf_lng, rd3]; omega)) (by (decide))) (fun r hr => ?_)) | (show Jo _ (.call ⟨.value (.func 24), _, _⟩); refine jcall0 (v := .bool true) (bkS g _ r []) bo19 rfl rfl rfl (tells_calls hW hr _ _ (by (simp [bsz_left, bsz_put, bsz_as, bsz_pass, bsz_right, bsz_fin, bsz_b0, Txt0.size_list, ba_list, lf_lng, rd3]; omega)) htell) ?_))))
    exact post _ _ rfl
end Go.Proofs.YtkehggbmpdacpabGreatDoor.Pg
namespace Go.Proofs.YtkehggbmpdacpabGreatDoor.PFnEscaped
open Go.Rx Go.RowKit Go.Proofs.YtkehggbmpdacpabGreatDoorW.PrintWords
theorem laws_FnEscaped.calls (a0 : ByteArray) (a1 : ByteArray) (A2 : Option Addr) (c2 : Nat) (l2 : List ByteArray) (ret_ : Bool) (w : World) (hr2 : Kd.C Kd.string w A2 l2.length l2) (hc2 : l2.length ≤ c2) (h : ret_ = true ∧ a0.size ≤ 140737488351232 ∧ a1.size ≤ 140737488351232 ∧ l2.length ≤ 8796093022208 ∧ Pg.Tab w) :
    Calls Tryz.prog 3 #[.string a0, .string a1, .slice A2 l2.length c2] w fun e w' => e = .returned (.bool ret_) ∧ Below w.heap.size w w' := by
  obtain ⟨rfl, h0, h1, h2, hT⟩ := h
  exact Pg.escaped_calls a0 a1 A2 c2 l2 w hT h0 h1 (Lw.rowAt_of rfl hr2) h2
end Go.Proofs.YtkehggbmpdacpabGreatDoor.PFnEscaped
