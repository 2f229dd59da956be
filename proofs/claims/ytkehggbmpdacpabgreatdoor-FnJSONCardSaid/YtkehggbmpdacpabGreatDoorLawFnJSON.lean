/- FnJSON: its walk. -/
import Derived.Test.YtkehggbmpdacpabGreatDoorLwQs
import Derived.Test.YtkehggbmpdacpabGreatDoorLwBg
import Derived.Test.YtkehggbmpdacpabGreatDoorPg66
import Derived.Test.YtkehggbmpdacpabGreatDoorPg70
import Derived.Test.YtkehggbmpdacpabGreatDoorKp16
set_option maxRecDepth 100000
set_option linter.unusedVariables false
set_option linter.unusedSimpArgs false
set_option linter.unusedSectionVars false
namespace Go.Proofs.YtkehggbmpdacpabGreatDoor.Pg
open Go.Rx hiding bt
open Go.RowKit Go.Proofs.YtkehggbmpdacpabGreatDoor.Dec0 Go.Proofs.YtkehggbmpdacpabGreatDoor.Lex0
theorem json_len {l : List ByteArray} (h : ∀ x ∈ l, x.size ≤ 1000) : ((txs l).flatMap keyT).length ≤ 1010 * l.length := by
  induction l with
  | nil => exact Nat.le_refl _
  | cons a l ih =>
    have h1 := ih fun x hx => h x (List.mem_cons_of_mem _ hx)
    have h2 := h a (List.mem_cons_self ..)
    have h3 := Txt0.size_list a
    rw [show txs (a :: l) = a.data.toList :: txs l from rfl, List.flatMap_cons, List.length_append, List.length_cons]
    have h4 : (keyT a.data.toList).length = a.data.toList.length + 7 := by simp [keyT]
    omega
theorem json_next {l : List ByteArray} {j : Nat} {x : ByteArray} (hx : l[j]? = some x) : ba (123 :: ((txs l).take j).flatMap keyT) ++ (⟨#[34]⟩ ++ x ++ ⟨#[34, 58, 32, 123, 125, 44]⟩) = ba (123 :: ((txs l).take (j + 1)).flatMap keyT) := by
  rw [Txt0.data_inj]
  rw [List.take_add_one, txs_at hx]
  simp [ba, keyT]
theorem json_book (dv : Bool) {l : List T} (p : T) (h : ∀ x ∈ l, QT x) : told ((b0.put 5 (jsonT l ++ [10])).behind p (told p false dv)).s true dv = ((b0.put 5 (jsonT l ++ [10])).behind p (told p false dv)).l := by
  show told (([] ++ (jsonT l ++ [10])) ++ p) true dv = ([] ++ [tiOf 5 0 (jsonT l ++ [10])]) ++ (told p false dv).map (mvTi ([] ++ (jsonT l ++ [10])).length)
  rw [List.nil_append, List.nil_append]
  exact law_json ea_env.neg tra_env dv p h
theorem bz6 (a b c d e f : UInt8) : (⟨#[a, b, c, d, e, f]⟩ : ByteArray).size = 6 := rfl
set_option maxHeartbeats 2000000 in
theorem lawJson_calls (A : Option Addr) (c : Nat) (l : List ByteArray) (p : ByteArray) (dv : Bool) (w : World) (hT : Tab w) (ha : RowAt nof w (.slice A l.length c) l.length (Lw.strs l)) (hl : l.length ≤ 8796093022208) (hs1 : p.size ≤ 140737488351232) :
    Calls Tryz.prog 9 #[.slice A l.length c, .string p, .bool dv] w fun e w' => e = .returned (.bool true) ∧ Below w.heap.size w w' := by
  refine enter (fun _ => False) 75 [] Tryz.func9 rfl rfl rfl (vs := [.slice A l.length c, .string p, .bool dv]) (Has.nil _) ?_
  conv => arg 2; arg 2; whnf
  have hW : ∃ W, Bs W ⟨75, [], fun _ => False, w⟩ ∧ Tab W := ⟨w, ⟨Below.refl _ _, fun k h => h.elim⟩, hT⟩
  have post : ∀ (f : Fr) (m : Mem), Rx.look f 6 = some (.bool true) → PJ ⟨75, [], fun _ => False, w⟩ (bodyPost Tryz.prog Tryz.f9 (fun e w' => e = .returned (.bool true) ∧ Below w.heap.size w w') .ret) f m := fun f m hf =>
    ret1 rfl rfl hf (fun w' hw' => ⟨rfl, hw'.2.below (fun k _ h => h) (Nat.le_refl _)⟩)
  have hsp := Txt0.size_list p
  repeat' ((fail_if_success (show PJ _ (Code.wp _ (Code.loop _) _) _ _)); first | first | refine cseq ?_ | refine rtext ?_ | refine ctrue rfl ?_ | refine cfalse rfl ?_ | refine cskip ?_ | refine cblk ?_ | refine cret ?_ | refine tret ?_ | refine jnil ?_ | (first | refine js rfl rfl ?_ | refine jmv rfl rfl rfl ?_ | refine jas_ rfl rfl rfl ?_ | (show Jo _ (.binOp _ _ _ _ _); ((show Jo _ (.binOp .gtr _ _ _ _); refine jgtr rfl rfl rfl rfl (fun hq => ?_) (fun hq => ?_)))) | (show Jo _ (.pick _ _ _); first | refine jy (ypick1 rfl rfl) rfl rfl ?_ | refine jy (ypick0 rfl rfl) rfl rfl ?_) | refine jy (ynot rfl rfl) rfl rfl ?_ | (show Jo _ (.call _); first | (show Jo _ (.call ⟨.builtin .len, _, #[9]⟩); refine jy (ylens rfl Lw.und9) rfl rfl ?_) | (show Jo _ (.call ⟨.builtin .len, _, _⟩); refine jy (ylenl rfl Lw.und24) rfl rfl ?_) | (show Jo _ (.call ⟨.value (.func 14), _, _⟩); refine jcallq Lw.boFit rfl rfl rfl (Lw.fits3_in ha (fun _ h => h) (by omega)) ?_; refine jcases (fun hf => ?_) (fun hf => ?_)) | (show Jo _ (.call ⟨.value (.func 17), _, _⟩); refine jcall (ι := Bool) (v := fun b => .bool b) (m' := fun _ => _) (fun b => b = true → l.length ≤ 50 ∧ ∀ x ∈ l, Lw.QuoteF x) Lw.boQs rfl rfl rfl (Lw.quotables_in ha (fun _ h => h) (by omega) (Lw.fits3_all hf)) (fun b hk => ?_); refine jcases (fun hbs => ?_) (fun hbs => ?_); try replace hbs := hk hbs) | (show Jo (some 32) (.call ⟨.value (.func 27), _, _⟩); refine jcallq (vs := [.string p, .int .i64 ((0 : Nat) : Int), .string ⟨#[10]⟩]) Lw.boBg rfl rfl rfl (Lw.begins_in (by omega) (by omega) (by decide)) ?_; refine jcases (fun hg1 => ?_) (fun hg1 => ?_)) | (show Jo (some 36) (.call ⟨.value (.func 27), _, _⟩); refine jcallq (vs := [.string p, .int .i64 ((0 : Nat) : Int), .string ⟨#[13]⟩]) Lw.boBg rfl rfl rfl (Lw.begins_in (by omega) (by omega) (by decide)) ?_; refine jcases (fun hg2 => ?_) (fun hg2 => ?_)) | (show Jo _ (.call ⟨.value (.func 25), _, _⟩); refine jcallq (v := .bool true) boPages rfl rfl rfl (pages_calls hW) ?_))))
  all_goals first | exact post _ _ rfl | skip
  obtain ⟨hl50, hbs⟩ := hbs
  obtain ⟨_, _, e, ha⟩ := ha
  cases e
  have hsz1 : ∀ x ∈ l, x.size ≤ 1000 := fun x hx => Nat.le_of_lt (hbs x hx).2.1
  have hjl := json_len hsz1
  have hjl2 : ∀ j, j ≤ l.length → (((txs l).take j).flatMap keyT).length ≤ 1010 * 50 := fun j hj => by
    have h := json_len (l := l.take j) (fun x hx => hsz1 x (List.mem_of_mem_take hx))
    rw [show txs (l.take j) = (txs l).take j by simp [txs], List.length_take] at h
    omega
  refine fin (f' := [(1, .string p), (2, .bool dv), (7, .string (ba (123 :: ((txs l).take 0).flatMap keyT))), (38, .slice A l.length c), (39, .int .i64 l.length), (40, .int .i64 (0 : Nat))]) (m' := [])
    (cloop (ι := Nat) (fun j => [(1, .string p), (2, .bool dv), (7, .string (ba (123 :: ((txs l).take j).flatMap keyT))), (38, .slice A l.length c), (39, .int .i64 l.length), (40, .int .i64 (j : Nat))]) (fun _ => []) (fun k j => k = l.length - j ∧ j ≤ l.length) l.length 0 ⟨rfl, Nat.zero_le _⟩ ?_) ⟨rfl, rfl, rfl, rfl, rfl, rfl, trivial⟩ rfl
  rintro k j ⟨rfl, hj⟩ K hK
  have hjs := hjl2 j hj
  by_cases hlt : j < l.length
  · obtain ⟨x, hx⟩ : ∃ x, l[j]? = some x := ⟨_, List.getElem?_eq_getElem hlt⟩
    have hxs := hsz1 x (List.mem_of_getElem? hx)
    obtain ⟨ad, rfl, _, hc⟩ := ha j (.string x) (by simp [Lw.strs, hx])
    have hk := hK (l.length - (j + 1)) (j + 1) (by omega) ⟨rfl, by omega⟩
    have hcl : (123 :: ((txs l).take j).flatMap keyT).length ≤ 60000 := by rw [List.length_cons]; omega
    repeat' (first | refine cseq ?_ | refine rtext ?_ | refine ctrue rfl ?_ | refine cskip ?_ | refine cblk ?_ | refine tnorm ?_ | refine jnil ?_ | (first | refine jmv rfl rfl rfl ?_ | (show Jo _ (.load _ _); refine jy (yloadw rfl hc (fun h => h) Lw.one9) rfl rfl ?_) | refine jas_ rfl rfl rfl ?_ | (show Jo _ (.binOp _ _ _ _ _); first | (show Jo _ (.binOp .add 3 _ _ _); refine jy (yadd (c := ((j + 1 : Nat) : Int)) rfl rfl (by rw [i64_in (by omega) (by omega)]; omega)) rfl rfl ?_) | (show Jo (some 48) (.binOp .add 9 _ _ _); refine jy (ysadd rfl rfl (by rw [ba_size]; simp only [ByteArray.size_append, bz1, bz6]; omega) (json_next hx)) rfl rfl ?_) | (show Jo (some 46) (.binOp .add 9 _ _ _); refine jy (ysadd rfl rfl (by simp only [ByteArray.size_append, bz1, bz6]; omega) rfl) rfl rfl ?_) | (show Jo (some 47) (.binOp .add 9 _ _ _); refine jy (ysadd rfl rfl (by simp only [ByteArray.size_append, bz1, bz6]; omega) rfl) rfl rfl ?_) | refine jy (ylss rfl rfl (by (exact decide_eq_true (by omega)))) rfl rfl ?_) | (show Jo _ (.indexAddr _ _ _); refine jy (yat (p' := ad.add j) rfl rfl Lw.und24 Lw.sz9 (by omega) (by omega) (by simp)) rfl rfl ?_)))
    exact fin hk ⟨rfl, rfl, rfl, rfl, rfl, rfl, trivial⟩ rfl
  · obtain rfl : j = l.length := by omega
    rw [take_txs] at hjs ⊢
    have hqt : ∀ v ∈ txs l, QT v := mem_txs fun x hx => (hbs x hx).1
    have htell := json_book dv p.data.toList hqt
    have hja : asc (ba (jsonT (txs l) ++ [10])).data.toList := by rw [ba_list]; exact asc_app (asc_json fun x hx => (hqt x hx).asc) (asc_cons (by decide) asc_nil)
    have hlp := told_len p.data.toList false dv
    have hpC := told_pos (s := p.data.toList) (fr := false) (dv := dv)
    have hcl : (123 :: (txs l).flatMap keyT).length ≤ 60000 := by rw [List.length_cons]; omega
    have hJl : (jsonT (txs l)).length ≤ 60000 := by rw [jsonT, List.length_cons, List.length_append, List.length_singleton]; omega
    repeat' ((fail_if_success (show PJ _ (Code.wp _ (Code.seq (Code.region 15 _ _) _) _) _ _)); first | first | refine cseq ?_ | refine rtext ?_ | refine cfalse rfl ?_ | refine cexit ?_ | refine jnil ?_ | (first | refine jmv rfl rfl rfl ?_ | refine jas_ rfl rfl rfl ?_ | (show Jo _ (.binOp _ _ _ _ _); first | (show Jo (some 51) (.binOp .add 9 _ _ _); refine jy (ysadd (c := ba (jsonT (txs l))) rfl rfl (by rw [ba_size, bz1]; omega) (by rw [Txt0.data_inj]; simp [ba, jsonT])) rfl rfl ?_) | refine jy (ylss rfl rfl (by (exact decide_eq_false (by omega)))) rfl rfl ?_) | (show Jo _ (.call _); ((show Jo _ (.call ⟨.value (.func 28), _, _⟩); refine jcall (ι := Row) (v := fun r' => r'.val (told p.data.toList false dv).length) (m' := fun r' => r'.mem ((told p.data.toList false dv).flatMap tiC) 59 ++ []) (fun r' => r'.ok 0 5 (told p.data.toList false dv).length ((told p.data.toList false dv).flatMap tiC)) bo16 rfl rfl rfl (parseB hW p.data.toList false dv (by omega)) (fun r2 h2 => ?_))))))
    obtain ⟨A2, c2, e2, q2, k2⟩ := row_tis h2
    generalize jsonT (txs l) = Jn at *
    generalize told p.data.toList false dv = lC at *
    rw [e2]
    have hC := fun (w' : World) (h : Has (r2.mem (lC.flatMap tiC) 59 ++ []) w') => k2 w' (h.sub (List.sublist_append_left _ _))
    generalize r2.mem (lC.flatMap tiC) 59 ++ [] = E at hC ⊢
    have hr := bk0 (X := ⟨75, [], fun _ => False, w⟩)
    have hnC : lC.length ≤ 1000000000 := by omega
    replace hpC : ∀ t ∈ lC, t.pos ≤ 1099511627776 := fun t ht => by have := hpC t ht; omega
    cases hwC : wholeT lC
    all_goals
      repeat' (first | refine cseq ?_ | refine rtext ?_ | refine ctrue rfl ?_ | refine cfalse rfl ?_ | refine cskip ?_ | refine cret ?_ | refine tret ?_ | refine jnil ?_ | (first | refine js rfl rfl ?_ | refine jmv rfl rfl rfl ?_ | refine jas_ rfl rfl rfl ?_ | (show Jo _ (.binOp _ _ _ _ _); ((show Jo (some 66) (.binOp .add 9 _ _ _); refine jy (ysadd (c := ba (Jn ++ [10])) rfl rfl (by rw [ba_size, bz1]; omega) (by rw [Txt0.data_inj]; simp [ba])) rfl rfl ?_))) | (show Jo _ (.pick _ _ _); first | refine jy (ypick1 rfl rfl) rfl rfl ?_ | refine jy (ypick0 rfl rfl) rfl rfl ?_) | refine jy (ynot rfl rfl) rfl rfl ?_ | (show Jo _ (.call _); first | (show Jo (some 56) (.call ⟨.value (.func 29), _, _⟩); refine jcallq (v := .bool _) bo17 rfl rfl rfl (quietC fun w' hw' => wholeE (hC w' hw'.1) hnC hwC) ?_) | (show Jo (some 60) (.call ⟨.value (.func 27), _, _⟩); refine jcallq (vs := [.string (ba Jn), .int .i64 ((0 : Nat) : Int), .string ⟨#[123, 123]⟩]) Lw.boBg rfl rfl rfl (Lw.begins_in (by rw [ba_size]; omega) (by omega) (by decide)) ?_; refine jcases (fun hg3 => ?_) (fun hg3 => ?_)) | (show Jo _ (.call ⟨.value (.func 19), _, _⟩); refine jcall (ι := Row) (v := fun _ => .tuple #[]) (m' := fun r' => bkS g _ r' E) (fun r' => BkOk _ r' _) bo24 rfl rfl rfl (putB_calls hg hr (by rw [bsz_b0]; omega) (by decide) (by rw [ba_size]; simp; omega) hja) (fun r hr => ?_)) | (show Jo _ (.call ⟨.value (.func 30), _, _⟩); refine jcall (ι := Row) (v := fun _ => .tuple #[]) (m' := fun r' => bkS g _ r' E) (fun r' => BkOk _ r' _) bo18 rfl rfl rfl (behindB_calls hg hr hC hnC hpC (by rw [bsz_put, bsz_b0, ba_list]; simp; omega) (by omega)) (fun r hr => ?_)) | (show Jo _ (.call ⟨.value (.func 24), _, _⟩); refine jcall0 (v := .bool true) (bkS g _ r E) bo19 rfl rfl rfl (tells_calls hW hr _ _ (by rw [bsz_behind, bsz_put, bsz_b0, ba_list, Txt0.size_list]; simp; omega) htell) ?_)) | (show Jo _ (.build _ _); refine jy (ybuild rfl bu29) rfl rfl ?_) | (show Jo _ (.box 28 _); refine jbox (c := [.string ⟨#[]⟩, .slice none 0 0]) rfl rfl rfl (fun g hgT => ?_); refine jmem (m' := bkS g b0 .nil E) rfl ?_; have hg : Cx.may ⟨_, [], fun _ => False, w⟩ g := .inr hgT)))
      all_goals exact post _ _ rfl
end Go.Proofs.YtkehggbmpdacpabGreatDoor.Pg
namespace Go.Proofs.YtkehggbmpdacpabGreatDoor.PFnJSON
open Go.Rx Go.RowKit Go.Proofs.YtkehggbmpdacpabGreatDoorW.PrintWords
theorem laws_FnJSON.calls (A0 : Option Addr) (c0 : Nat) (l0 : List ByteArray) (a1 : ByteArray) (a2 : Bool) (ret_ : Bool) (w : World) (hr0 : Kd.C Kd.string w A0 l0.length l0) (hc0 : l0.length ≤ c0) (h : ret_ = true ∧ l0.length ≤ 8796093022208 ∧ a1.size ≤ 140737488351232 ∧ Pg.Tab w) :
    Calls Tryz.prog 9 #[.slice A0 l0.length c0, .string a1, .bool a2] w fun e w' => e = .returned (.bool ret_) ∧ Below w.heap.size w w' := by
  obtain ⟨rfl, h0, h1, hT⟩ := h
  exact Pg.lawJson_calls A0 c0 l0 a1 a2 w hT (Lw.rowAt_of rfl hr0) h0 h1
end Go.Proofs.YtkehggbmpdacpabGreatDoor.PFnJSON
