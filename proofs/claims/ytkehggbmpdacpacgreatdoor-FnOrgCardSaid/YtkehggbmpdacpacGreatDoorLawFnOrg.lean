/- FnOrg: its walk. -/
import Derived.Test.YtkehggbmpdacpacGreatDoorLwBg
import Derived.Test.YtkehggbmpdacpacGreatDoorPg66
import Derived.Test.YtkehggbmpdacpacGreatDoorPg70
import Derived.Test.YtkehggbmpdacpacGreatDoorKp15
set_option maxRecDepth 100000
set_option linter.unusedVariables false
set_option linter.unusedSimpArgs false
set_option linter.unusedSectionVars false
namespace Go.Proofs.YtkehggbmpdacpacGreatDoor.Pg
open Go.Rx hiding bt
open Go.RowKit Go.Proofs.YtkehggbmpdacpacGreatDoor.Dec0 Go.Proofs.YtkehggbmpdacpacGreatDoor.Lex0
theorem line_len {l : List ByteArray} (h : ∀ x ∈ l, x.size ≤ 1000) : ((txs l).flatMap lineT).length ≤ 1010 * l.length := by
  induction l with
  | nil => exact Nat.le_refl _
  | cons a l ih =>
    have h1 := ih fun x hx => h x (List.mem_cons_of_mem _ hx)
    have h2 := h a (List.mem_cons_self ..)
    have h3 := Txt0.size_list a
    rw [show txs (a :: l) = a.data.toList :: txs l from rfl, List.flatMap_cons, List.length_append, List.length_cons]
    have h4 : (lineT a.data.toList).length = a.data.toList.length + 3 := by simp [lineT]
    omega
theorem line_next {l : List ByteArray} {j : Nat} {x : ByteArray} (hx : l[j]? = some x) : ba (((txs l).take j).flatMap lineT) ++ (⟨#[35, 43]⟩ ++ x ++ ⟨#[10]⟩) = ba (((txs l).take (j + 1)).flatMap lineT) := by
  rw [Txt0.data_inj]
  rw [List.take_add_one, txs_at hx]
  simp [ba, lineT]
theorem org_book {l : List T} (p : T) (hl : l ≠ []) (h : ∀ x ∈ l, QT x) (hp : p.head? ≠ some 35) : told ((b0.put 6 (l.flatMap lineT)).behind p (told p false false)).s true false = ((b0.put 6 (l.flatMap lineT)).behind p (told p false false)).l := by
  show told (([] ++ (l.flatMap lineT)) ++ p) true false = ([] ++ [tiOf 6 0 (l.flatMap lineT)]) ++ (told p false false).map (mvTi ([] ++ (l.flatMap lineT)).length)
  rw [List.nil_append, List.nil_append]
  exact law_org ea_env.neg tra_env p hl h hp
theorem head_no {p : ByteArray} (h : (decide (0 + (⟨#[35]⟩ : ByteArray).size ≤ p.size) && (⟨#[35]⟩ : ByteArray).data.toList.isPrefixOf (p.data.toList.drop 0)) = false) : p.data.toList.head? ≠ some 35 := by
  intro e
  cases hp : p.data.toList with
  | nil => rw [hp] at e; cases e
  | cons a r =>
    rw [hp] at e
    cases e
    have h1 : 1 ≤ p.size := by rw [← Txt0.size_list, hp]; simp
    rw [List.drop_zero, hp, decide_eq_true (show 0 + (⟨#[35]⟩ : ByteArray).size ≤ p.size from by show 0 + 1 ≤ _; omega)] at h
    simp [List.isPrefixOf] at h
set_option maxHeartbeats 2000000 in
theorem lawOrg_calls (A : Option Addr) (c : Nat) (l : List ByteArray) (p : ByteArray) (w : World) (hT : Tab w) (ha : RowAt nof w (.slice A l.length c) l.length (Lw.strs l)) (hl : l.length ≤ 8796093022208) (hs1 : p.size ≤ 140737488351232) :
    Calls Tryz.prog 5 #[.slice A l.length c, .string p] w fun e w' => e = .returned (.bool true) ∧ Below w.heap.size w w' := by
  refine enter (fun _ => False) 77 [] Tryz.func5 rfl rfl rfl (vs := [.slice A l.length c, .string p]) (Has.nil _) ?_
  conv => arg 2; arg 2; whnf
  have hW : ∃ W, Bs W ⟨77, [], fun _ => False, w⟩ ∧ Tab W := ⟨w, ⟨Below.refl _ _, fun k h => h.elim⟩, hT⟩
  have post : ∀ (f : Fr) (m : Mem), Rx.look f 4 = some (.bool true) → PJ ⟨77, [], fun _ => False, w⟩ (bodyPost Tryz.prog Tryz.f5 (fun e w' => e = .returned (.bool true) ∧ Below w.heap.size w w') .ret) f m := fun f m hf =>
    ret1 rfl rfl hf (fun w' hw' => ⟨rfl, hw'.2.below (fun k _ h => h) (Nat.le_refl _)⟩)
  have hsp := Txt0.size_list p
  obtain ⟨ne, hne⟩ : ∃ c, decide (p ≠ ⟨#[]⟩) = c := ⟨_, rfl⟩
  have hne2 : ne = true → 0 < p.size := fun h => by
    rw [h] at hne
    have h1 : ¬ p = ⟨#[]⟩ := by simpa using hne
    exact Nat.pos_of_ne_zero fun h0 => h1 (by rw [Txt0.data_inj]; exact List.length_eq_zero_iff.1 (by omega))
  cases ne
  all_goals
    try have hpos := hne2 rfl
    repeat' ((fail_if_success (show PJ _ (Code.wp _ (Code.loop _) _) _ _)); first | first | refine cseq ?_ | refine rtext ?_ | refine ctrue rfl ?_ | refine cfalse rfl ?_ | refine cskip ?_ | refine cblk ?_ | refine cret ?_ | refine tret ?_ | refine jnil ?_ | (first | refine js rfl rfl ?_ | refine jmv rfl rfl rfl ?_ | refine jas_ rfl rfl rfl ?_ | (show Jo _ (.binOp _ _ _ _ _); first | (show Jo _ (.binOp .gtr _ _ _ _); refine jgtr rfl rfl rfl rfl (fun hq => ?_) (fun hq => ?_)) | (show Jo _ (.binOp .neq 9 _ _ _); refine jy (ysneq rfl rfl hne) rfl rfl ?_) | (show Jo _ (.binOp .leq _ _ _ _); refine jleq rfl rfl rfl rfl (fun hq => ?_) (fun hq => ?_)) | refine jlss rfl rfl rfl rfl (fun hq => ?_) (fun hq => ?_)) | (show Jo _ (.pick _ _ _); first | refine jy (ypick1 rfl rfl) rfl rfl ?_ | refine jy (ypick0 rfl rfl) rfl rfl ?_) | refine jy (ynot rfl rfl) rfl rfl ?_ | (show Jo _ (.call _); first | (show Jo _ (.call ⟨.builtin .len, _, #[9]⟩); refine jy (ylens rfl Lw.und9) rfl rfl ?_) | (show Jo _ (.call ⟨.builtin .len, _, _⟩); refine jy (ylenl rfl Lw.und24) rfl rfl ?_) | (show Jo _ (.call ⟨.value (.func 21), _, _⟩); refine jcallq Lw.boFit rfl rfl rfl (Lw.fits3_in ha (fun _ h => h) (by omega)) ?_; refine jcases (fun hf => ?_) (fun hf => ?_)) | (show Jo (some 35) (.call ⟨.value (.func 22), _, _⟩); refine jcallq (vs := [.string p, .int .i64 ((0 : Nat) : Int), .string ⟨#[35]⟩]) Lw.boBg rfl rfl rfl (Lw.begins_in (by omega) (by omega) (by decide)) ?_; refine jcases (fun hg1 => ?_) (fun hg1 => ?_)) | (show Jo _ (.call ⟨.value (.func 13), _, _⟩); refine jcallq (v := .bool true) boPages rfl rfl rfl (pages_calls hW) ?_)) | (show Jo _ (.index 9 _ _); refine jy (yidx (c := Rx.bt p 0) rfl rfl Lw.und9 (by omega) (by omega) rfl) rfl rfl ?_)))
    all_goals first | exact post _ _ rfl | skip
  all_goals
    obtain ⟨_, _, e, ha⟩ := ha
    cases e
    refine fin (f' := [(1, .string p), (5, .string (ba (((txs l).take 0).flatMap lineT))), (46, .slice A l.length c), (47, .int .i64 l.length), (48, .int .i64 (0 : Nat))]) (m' := [])
      (cloop (ι := Nat) (fun j => [(1, .string p), (5, .string (ba (((txs l).take j).flatMap lineT))), (46, .slice A l.length c), (47, .int .i64 l.length), (48, .int .i64 (j : Nat))]) (fun _ => []) (fun k j => k = l.length - j ∧ j ≤ l.length ∧ ∀ x ∈ l.take j, Lw.QuoteF x) l.length 0 ⟨rfl, Nat.zero_le _, fun x hx => by simp at hx⟩ ?_) ⟨rfl, rfl, rfl, rfl, rfl, trivial⟩ rfl
    rintro k j ⟨rfl, hj, hbs⟩ K hK
    have hjs := line_len (l := l.take j) (fun x hx => Nat.le_of_lt (hbs x hx).2.1)
    rw [show txs (l.take j) = (txs l).take j by simp [txs], List.length_take] at hjs
    by_cases hlt : j < l.length
    · obtain ⟨x, hx⟩ : ∃ x, l[j]? = some x := ⟨_, List.getElem?_eq_getElem hlt⟩
      have hxz := Lw.fits3_all hf x (List.mem_of_getElem? hx)
      obtain ⟨ad, rfl, _, hc⟩ := ha j (.string x) (by simp [Lw.strs, hx])
      have hkk := fun hq => hK (l.length - (j + 1)) (j + 1) (by omega) ⟨rfl, by omega, hq⟩
      have hbs2 : Lw.QuoteF x → ∀ y ∈ l.take (j + 1), Lw.QuoteF y := fun hq y hy => by
        rw [List.take_add_one, hx] at hy
        rcases List.mem_append.1 hy with h | h
        · exact hbs y h
        · simp at h; rw [h]; exact hq
      repeat' (first | refine cseq ?_ | refine rtext ?_ | refine ctrue rfl ?_ | refine cfalse rfl ?_ | refine cskip ?_ | refine cblk ?_ | refine cret ?_ | refine tnorm ?_ | refine tret ?_ | refine bret ?_ | refine jnil ?_ | (first | refine jmv rfl rfl rfl ?_ | (show Jo _ (.load _ _); refine jy (yloadw rfl hc (fun h => h) Lw.one9) rfl rfl ?_) | refine jas_ rfl rfl rfl ?_ | (show Jo _ (.binOp _ _ _ _ _); first | (show Jo _ (.binOp .add 3 _ _ _); refine jy (yadd (c := ((j + 1 : Nat) : Int)) rfl rfl (by rw [i64_in (by omega) (by omega)]; omega)) rfl rfl ?_) | (show Jo (some 57) (.binOp .add 9 _ _ _); refine jy (ysadd rfl rfl (by simp only [ByteArray.size_append, bz1, bz2]; omega) rfl) rfl rfl ?_) | (show Jo (some 58) (.binOp .add 9 _ _ _); refine jy (ysadd rfl rfl (by simp only [ByteArray.size_append, bz1, bz2]; omega) rfl) rfl rfl ?_) | (show Jo (some 59) (.binOp .add 9 _ _ _); refine jy (ysadd rfl rfl (by rw [ba_size]; simp only [ByteArray.size_append, bz1, bz2]; omega) (line_next hx)) rfl rfl ?_) | refine jy (ylss rfl rfl (by (exact decide_eq_true (by omega)))) rfl rfl ?_) | refine jy (ynot rfl rfl) rfl rfl ?_ | (show Jo _ (.call _); ((show Jo _ (.call ⟨.value (.func 23), _, _⟩); refine jcall (ι := Bool) (v := fun b => .bool b) (m' := fun _ => _) (fun b => b = true → Lw.QuoteF x) Lw.boQt rfl rfl rfl (Lw.quotable_in (by omega)) (fun b hk => ?_); refine jcases (fun hv => ?_) (fun hv => ?_); try (replace hv := hk hv; have hvs := hv.2.1)))) | (show Jo _ (.indexAddr _ _ _); refine jy (yat (p' := ad.add j) rfl rfl Lw.und24 Lw.sz9 (by omega) (by omega) (by simp)) rfl rfl ?_)))
      all_goals first | exact post _ _ rfl | exact fin (hkk (hbs2 hv)) ⟨rfl, rfl, rfl, rfl, rfl, trivial⟩ rfl
    · obtain rfl : j = l.length := by omega
      rw [take_txs] at hjs ⊢
      rw [List.take_length] at hbs
      have hqt : ∀ v ∈ txs l, QT v := mem_txs fun x hx => (hbs x hx).1
      have htell := org_book p.data.toList (l := txs l) (fun e => by have h := congrArg List.length e; rw [txs, List.length_map, List.length_nil] at h; omega) hqt (head_no hg1)
      have hja : asc (ba ((txs l).flatMap lineT)).data.toList := by rw [ba_list]; exact asc_flat fun x hx => asc_cons (by decide) (asc_cons (by decide) (asc_app (hqt x hx).asc (asc_cons (by decide) asc_nil)))
      have hlp := told_len p.data.toList false false
      have hpC := told_pos (s := p.data.toList) (fr := false) (dv := false)
      have hJl : ((txs l).flatMap lineT).length ≤ 60000 := by omega
      repeat' ((fail_if_success (show PJ _ (Code.wp _ (Code.seq (Code.region 16 _ _) _) _) _ _)); first | first | refine cseq ?_ | refine rtext ?_ | refine cfalse rfl ?_ | refine cexit ?_ | refine jnil ?_ | (first | refine jmv rfl rfl rfl ?_ | refine jas_ rfl rfl rfl ?_ | (show Jo _ (.binOp _ _ _ _ _); refine jy (ylss rfl rfl (by (exact decide_eq_false (by omega)))) rfl rfl ?_) | (show Jo _ (.call _); ((show Jo _ (.call ⟨.value (.func 16), _, _⟩); refine jcall (ι := Row) (v := fun r' => r'.val (told p.data.toList false false).length) (m' := fun r' => r'.mem ((told p.data.toList false false).flatMap tiC) 51 ++ []) (fun r' => r'.ok 0 5 (told p.data.toList false false).length ((told p.data.toList false false).flatMap tiC)) bo16 rfl rfl rfl (parseB hW p.data.toList false false (by omega)) (fun r2 h2 => ?_))))))
      obtain ⟨A2, c2, e2, q2, k2⟩ := row_tis h2
      generalize (txs l).flatMap lineT = Jn at *
      generalize told p.data.toList false false = lC at *
      rw [e2]
      have hC := fun (w' : World) (h : Has (r2.mem (lC.flatMap tiC) 51 ++ []) w') => k2 w' (h.sub (List.sublist_append_left _ _))
      generalize r2.mem (lC.flatMap tiC) 51 ++ [] = E at hC ⊢
      have hr := bk0 (X := ⟨77, [], fun _ => False, w⟩)
      have hnC : lC.length ≤ 1000000000 := by omega
      replace hpC : ∀ t ∈ lC, t.pos ≤ 1099511627776 := fun t ht => by have := hpC t ht; omega
      cases hwC : wholeT lC
      all_goals
        repeat' (first | refine cseq ?_ | refine rtext ?_ | refine ctrue rfl ?_ | refine cfalse rfl ?_ | refine cskip ?_ | refine cret ?_ | refine tret ?_ | refine jnil ?_ | (first | refine jmv rfl rfl rfl ?_ | refine jas_ rfl rfl rfl ?_ | refine jy (ynot rfl rfl) rfl rfl ?_ | (show Jo _ (.call _); first | (show Jo _ (.call ⟨.value (.func 24), _, _⟩); refine jcallq (v := .bool _) bo17 rfl rfl rfl (quietC fun w' hw' => wholeE (hC w' hw'.1) hnC hwC) ?_) | (show Jo _ (.call ⟨.value (.func 18), _, _⟩); refine jcall (ι := Row) (v := fun _ => .tuple #[]) (m' := fun r' => bkS g _ r' E) (fun r' => BkOk _ r' _) bo24 rfl rfl rfl (putB_calls hg hr (by rw [bsz_b0]; omega) (by decide) (by rw [ba_size]; omega) hja) (fun r hr => ?_)) | (show Jo _ (.call ⟨.value (.func 25), _, _⟩); refine jcall (ι := Row) (v := fun _ => .tuple #[]) (m' := fun r' => bkS g _ r' E) (fun r' => BkOk _ r' _) bo18 rfl rfl rfl (behindB_calls hg hr hC hnC hpC (by rw [bsz_put, bsz_b0, ba_list]; omega) (by omega)) (fun r hr => ?_)) | (show Jo _ (.call ⟨.value (.func 20), _, _⟩); refine jcall0 (v := .bool true) (bkS g _ r E) bo19 rfl rfl rfl (tells_calls hW hr _ _ (by rw [bsz_behind, bsz_put, bsz_b0, ba_list, Txt0.size_list]; omega) htell) ?_)) | (show Jo _ (.build _ _); refine jy (ybuild rfl bu29) rfl rfl ?_) | (show Jo _ (.box 31 _); refine jbox (c := [.string ⟨#[]⟩, .slice none 0 0]) rfl rfl rfl (fun g hgT => ?_); refine jmem (m' := bkS g b0 .nil E) rfl ?_; have hg : Cx.may ⟨_, [], fun _ => False, w⟩ g := .inr hgT)))
        all_goals exact post _ _ rfl
end Go.Proofs.YtkehggbmpdacpacGreatDoor.Pg
namespace Go.Proofs.YtkehggbmpdacpacGreatDoor.PFnOrg
open Go.Rx Go.RowKit Go.Proofs.YtkehggbmpdacpacGreatDoorW.PrintWords
theorem laws_FnOrg.calls (A0 : Option Addr) (c0 : Nat) (l0 : List ByteArray) (a1 : ByteArray) (ret_ : Bool) (w : World) (hr0 : Kd.C Kd.string w A0 l0.length l0) (hc0 : l0.length ≤ c0) (h : ret_ = true ∧ l0.length ≤ 8796093022208 ∧ a1.size ≤ 140737488351232 ∧ Pg.Tab w) :
    Calls Tryz.prog 5 #[.slice A0 l0.length c0, .string a1] w fun e w' => e = .returned (.bool ret_) ∧ Below w.heap.size w w' := by
  obtain ⟨rfl, h0, h1, hT⟩ := h
  exact Pg.lawOrg_calls A0 c0 l0 a1 w hT (Lw.rowAt_of rfl hr0) h0 h1
end Go.Proofs.YtkehggbmpdacpacGreatDoor.PFnOrg
