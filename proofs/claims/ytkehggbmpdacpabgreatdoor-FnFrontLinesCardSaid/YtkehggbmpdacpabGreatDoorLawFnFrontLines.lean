/- FnFrontLines: its walk. -/
import Derived.Test.YtkehggbmpdacpabGreatDoorLwQs
import Derived.Test.YtkehggbmpdacpabGreatDoorLwBg
import Derived.Test.YtkehggbmpdacpabGreatDoorPg66
import Derived.Test.YtkehggbmpdacpabGreatDoorPg70
import Derived.Test.YtkehggbmpdacpabGreatDoorKp16
set_option maxRecDepth 100000
set_option linter.unusedVariables false
set_option linter.unusedSimpArgs false
set_option linter.unusedSectionVars false
namespace Go.Proofs.YtkehggbmpdacpabGreatDoor.Pg
open Go.Rx hiding bt
open Go.RowKit Go.Proofs.YtkehggbmpdacpabGreatDoor.Dec0 Go.Proofs.YtkehggbmpdacpabGreatDoor.Lex0
def fnK (tm : Bool) : UInt8 := if tm then 43 else 45
def fnY (tm : Bool) : Nat := if tm then 4 else 3
def fnT (tm : Bool) : T := [fnK tm, fnK tm, fnK tm, 13, 10]
theorem boFc : bodyB Tryz.prog 26 = true := by kernel_rfl
theorem lawFence_calls (tm : Bool) (w : World) : Calls Tryz.prog 26 #[.bool tm] w fun e w' => e = .returned (.string (ba [fnK tm, fnK tm, fnK tm])) ∧ Below w.heap.size w w' := by
  refine enter (fun _ => False) 4 [] Tryz.func26 rfl rfl rfl (vs := [.bool tm]) (Has.nil _) ?_
  conv => arg 2; arg 2; whnf
  cases tm
  · repeat' (first | refine cseq ?_ | refine rtext ?_ | refine cfalse rfl ?_ | refine cskip ?_ | refine cret ?_ | refine jnil ?_ | (first | refine jmv rfl rfl rfl ?_ | refine jas_ rfl rfl rfl ?_))
    exact ret1 rfl rfl rfl (fun w' hw' => ⟨rfl, hw'.2.below (fun k _ h => h) (Nat.le_refl _)⟩)
  · repeat' (first | refine cseq ?_ | refine rtext ?_ | refine ctrue rfl ?_ | refine cret ?_ | refine tret ?_ | refine jnil ?_ | (first | refine jmv rfl rfl rfl ?_ | refine jas_ rfl rfl rfl ?_))
    exact ret1 rfl rfl rfl (fun w' hw' => ⟨rfl, hw'.2.below (fun k _ h => h) (Nat.le_refl _)⟩)
theorem lawFence_in {X : Cx} {m : Mem} {tm : Bool} : ∀ w, Cl X m w → Calls Tryz.prog 26 #[.bool tm] w fun e w' => e = .returned (.string (ba [fnK tm, fnK tm, fnK tm])) ∧ Cl X m w' := quietC fun w _ => lawFence_calls tm w
theorem cr_len {l : List ByteArray} (h : ∀ x ∈ l, x.size ≤ 1000) : ((txs l).flatMap crT).length ≤ 1010 * l.length := by
  induction l with
  | nil => exact Nat.le_refl _
  | cons a l ih =>
    have h1 := ih fun x hx => h x (List.mem_cons_of_mem _ hx)
    have h2 := h a (List.mem_cons_self ..)
    have h3 := Txt0.size_list a
    rw [show txs (a :: l) = a.data.toList :: txs l from rfl, List.flatMap_cons, List.length_append, List.length_cons]
    have h4 : (crT a.data.toList).length = a.data.toList.length + 2 := by simp [crT]
    omega
theorem cr_next {l : List ByteArray} {j : Nat} {x : ByteArray} (hx : l[j]? = some x) : ba (((txs l).take j).flatMap crT) ++ (x ++ ⟨#[13, 10]⟩) = ba (((txs l).take (j + 1)).flatMap crT) := by
  rw [Txt0.data_inj]
  rw [List.take_add_one, txs_at hx]
  simp [ba, crT]
theorem fence_book (tm dv : Bool) {l : List T} (p : T) (hl : l ≠ []) (h : ∀ x ∈ l, asc x ∧ (∀ c ∈ x, c ≠ 10 ∧ c ≠ 13) ∧ x.head? ≠ some (fnK tm)) : told ((((b0.pass (fnT tm)).put (fnY tm) (l.flatMap crT)).pass (fnT tm)).behind p (told p false dv)).s true dv = ((((b0.pass (fnT tm)).put (fnY tm) (l.flatMap crT)).pass (fnT tm)).behind p (told p false dv)).l := by
  have h1 := law_fence ea_env.neg tra_env dv (fnK tm) (fnY tm) (by cases tm; exact .inr ⟨rfl, rfl⟩; exact .inl ⟨rfl, rfl⟩) p hl h (pre := (([] ++ fnT tm) ++ l.flatMap crT) ++ fnT tm) (by simp [fnT])
  exact h1
theorem head_not {x : ByteArray} {k : UInt8} (h : (decide (0 + (⟨#[k]⟩ : ByteArray).size ≤ x.size) && (⟨#[k]⟩ : ByteArray).data.toList.isPrefixOf (x.data.toList.drop 0)) = false) : x.data.toList.head? ≠ some k := by
  intro e
  cases hp : x.data.toList with
  | nil => rw [hp] at e; cases e
  | cons a r =>
    rw [hp] at e
    cases e
    have h1 : 1 ≤ x.size := by rw [← Txt0.size_list, hp]; simp
    rw [List.drop_zero, hp, decide_eq_true (show 0 + (⟨#[k]⟩ : ByteArray).size ≤ x.size from by show 0 + 1 ≤ _; omega)] at h
    simp [List.isPrefixOf] at h
set_option maxHeartbeats 2000000 in
theorem frontLines_calls (tm : Bool) (A : Option Addr) (c : Nat) (l : List ByteArray) (p : ByteArray) (dv : Bool) (w : World) (hT : Tab w) (ha : RowAt nof w (.slice A l.length c) l.length (Lw.strs l)) (hl : l.length ≤ 8796093022208) (hs1 : p.size ≤ 140737488351232) :
    Calls Tryz.prog 4 #[.bool tm, .slice A l.length c, .string p, .bool dv] w fun e w' => e = .returned (.bool true) ∧ Below w.heap.size w w' := by
  refine enter (fun _ => False) 86 [] Tryz.func4 rfl rfl rfl (vs := [.bool tm, .slice A l.length c, .string p, .bool dv]) (Has.nil _) ?_
  conv => arg 2; arg 2; whnf
  have hW : ∃ W, Bs W ⟨86, [], fun _ => False, w⟩ ∧ Tab W := ⟨w, ⟨Below.refl _ _, fun k h => h.elim⟩, hT⟩
  have post : ∀ (f : Fr) (m : Mem), Rx.look f 8 = some (.bool true) → PJ ⟨86, [], fun _ => False, w⟩ (bodyPost Tryz.prog Tryz.f4 (fun e w' => e = .returned (.bool true) ∧ Below w.heap.size w w') .ret) f m := fun f m hf =>
    ret1 rfl rfl hf (fun w' hw' => ⟨rfl, hw'.2.below (fun k _ h => h) (Nat.le_refl _)⟩)
  have hsp := Txt0.size_list p
  repeat' ((fail_if_success (show PJ _ (Code.wp _ (Code.loop _) _) _ _)); first | first | refine cseq ?_ | refine rtext ?_ | refine ctrue rfl ?_ | refine cfalse rfl ?_ | refine cskip ?_ | refine cblk ?_ | refine cret ?_ | refine tret ?_ | refine jnil ?_ | (first | refine js rfl rfl ?_ | refine jmv rfl rfl rfl ?_ | refine jas_ rfl rfl rfl ?_ | (show Jo _ (.binOp _ _ _ _ _); first | (show Jo _ (.binOp .gtr _ _ _ _); refine jgtr rfl rfl rfl rfl (fun hq => ?_) (fun hq => ?_)) | refine jlss rfl rfl rfl rfl (fun hq => ?_) (fun hq => ?_)) | (show Jo _ (.pick _ _ _); first | refine jy (ypick1 rfl rfl) rfl rfl ?_ | refine jy (ypick0 rfl rfl) rfl rfl ?_) | refine jy (ynot rfl rfl) rfl rfl ?_ | (show Jo _ (.call _); first | (show Jo _ (.call ⟨.builtin .len, _, #[9]⟩); refine jy (ylens rfl Lw.und9) rfl rfl ?_) | (show Jo _ (.call ⟨.builtin .len, _, _⟩); refine jy (ylenl rfl Lw.und24) rfl rfl ?_) | (show Jo _ (.call ⟨.value (.func 14), _, _⟩); refine jcallq Lw.boFit rfl rfl rfl (Lw.fits3_in ha (fun _ h => h) (by omega)) ?_; refine jcases (fun hf => ?_) (fun hf => ?_)) | (show Jo _ (.call ⟨.value (.func 17), _, _⟩); refine jcall (ι := Bool) (v := fun b => .bool b) (m' := fun _ => _) (fun b => b = true → l.length ≤ 50 ∧ ∀ x ∈ l, Lw.QuoteF x) Lw.boQs rfl rfl rfl (Lw.quotables_in ha (fun _ h => h) (by omega) (Lw.fits3_all hf)) (fun b hk => ?_); refine jcases (fun hbs => ?_) (fun hbs => ?_); try replace hbs := hk hbs) | (show Jo _ (.call ⟨.value (.func 26), _, _⟩); refine jcallq boFc rfl rfl rfl lawFence_in ?_) | (show Jo _ (.call ⟨.value (.func 25), _, _⟩); refine jcallq (v := .bool true) boPages rfl rfl rfl (pages_calls hW) ?_))))
  all_goals first | exact post _ _ rfl | skip
  obtain ⟨hl50, hbs⟩ := hbs
  obtain ⟨_, _, e, ha⟩ := ha
  cases e
  have hsz1 : ∀ x ∈ l, x.size ≤ 1000 := fun x hx => Nat.le_of_lt (hbs x hx).2.1
  refine fin (f' := [(0, .bool tm), (2, .string p), (3, .bool dv), (9, .string (ba [fnK tm, fnK tm, fnK tm])), (10, .string (ba (((txs l).take 0).flatMap crT))), (41, .slice A l.length c), (42, .int .i64 l.length), (43, .int .i64 (0 : Nat))]) (m' := [])
    (cloop (ι := Nat) (fun j => [(0, .bool tm), (2, .string p), (3, .bool dv), (9, .string (ba [fnK tm, fnK tm, fnK tm])), (10, .string (ba (((txs l).take j).flatMap crT))), (41, .slice A l.length c), (42, .int .i64 l.length), (43, .int .i64 (j : Nat))]) (fun _ => []) (fun k j => k = l.length - j ∧ j ≤ l.length ∧ ∀ x ∈ l.take j, x.data.toList.head? ≠ some 45 ∧ x.data.toList.head? ≠ some 43) l.length 0 ⟨rfl, Nat.zero_le _, fun x hx => by simp at hx⟩ ?_) ⟨rfl, rfl, rfl, rfl, rfl, rfl, rfl, rfl, trivial⟩ rfl
  rintro k j ⟨rfl, hj, hhs⟩ K hK
  have hjs := cr_len (l := l.take j) (fun x hx => hsz1 x (List.mem_of_mem_take hx))
  rw [show txs (l.take j) = (txs l).take j by simp [txs], List.length_take] at hjs
  by_cases hlt : j < l.length
  · obtain ⟨x, hx⟩ : ∃ x, l[j]? = some x := ⟨_, List.getElem?_eq_getElem hlt⟩
    have hxs := hsz1 x (List.mem_of_getElem? hx)
    obtain ⟨ad, rfl, _, hc⟩ := ha j (.string x) (by simp [Lw.strs, hx])
    have hkk := fun hq => hK (l.length - (j + 1)) (j + 1) (by omega) ⟨rfl, by omega, hq⟩
    have hbs2 : x.data.toList.head? ≠ some 45 ∧ x.data.toList.head? ≠ some 43 → ∀ y ∈ l.take (j + 1), y.data.toList.head? ≠ some 45 ∧ y.data.toList.head? ≠ some 43 := fun hq y hy => by
      rw [List.take_add_one, hx] at hy
      rcases List.mem_append.1 hy with h | h
      · exact hhs y h
      · simp at h; rw [h]; exact hq
    repeat' (first | refine cseq ?_ | refine rtext ?_ | refine ctrue rfl ?_ | refine cfalse rfl ?_ | refine cskip ?_ | refine cblk ?_ | refine cret ?_ | refine tnorm ?_ | refine tret ?_ | refine bret ?_ | refine jnil ?_ | (first | refine js rfl rfl ?_ | refine jmv rfl rfl rfl ?_ | (show Jo _ (.load _ _); refine jy (yloadw rfl hc (fun h => h) Lw.one9) rfl rfl ?_) | refine jas_ rfl rfl rfl ?_ | (show Jo _ (.binOp _ _ _ _ _); first | (show Jo _ (.binOp .add 3 _ _ _); refine jy (yadd (c := ((j + 1 : Nat) : Int)) rfl rfl (by rw [i64_in (by omega) (by omega)]; omega)) rfl rfl ?_) | (show Jo (some 55) (.binOp .add 9 _ _ _); refine jy (ysadd rfl rfl (by simp only [bz2]; omega) rfl) rfl rfl ?_) | (show Jo (some 56) (.binOp .add 9 _ _ _); refine jy (ysadd rfl rfl (by rw [ba_size]; simp only [ByteArray.size_append, bz2]; omega) (cr_next hx)) rfl rfl ?_) | refine jy (ylss rfl rfl (by (exact decide_eq_true (by omega)))) rfl rfl ?_) | (show Jo _ (.pick _ _ _); first | refine jy (ypick1 rfl rfl) rfl rfl ?_ | refine jy (ypick0 rfl rfl) rfl rfl ?_) | (show Jo _ (.call _); first | (show Jo (some 48) (.call ⟨.value (.func 27), _, _⟩); refine jcallq (vs := [.string x, .int .i64 ((0 : Nat) : Int), .string ⟨#[45]⟩]) Lw.boBg rfl rfl rfl (Lw.begins_in (by omega) (by omega) (by decide)) ?_; refine jcases (fun hg1 => ?_) (fun hg1 => ?_)) | (show Jo (some 51) (.call ⟨.value (.func 27), _, _⟩); refine jcallq (vs := [.string x, .int .i64 ((0 : Nat) : Int), .string ⟨#[43]⟩]) Lw.boBg rfl rfl rfl (Lw.begins_in (by omega) (by omega) (by decide)) ?_; refine jcases (fun hg2 => ?_) (fun hg2 => ?_))) | (show Jo _ (.indexAddr _ _ _); refine jy (yat (p' := ad.add j) rfl rfl Lw.und24 Lw.sz9 (by omega) (by omega) (by simp)) rfl rfl ?_)))
    all_goals first | exact post _ _ rfl | exact fin (hkk (hbs2 ⟨head_not hg1, head_not hg2⟩)) ⟨rfl, rfl, rfl, rfl, rfl, rfl, rfl, rfl, trivial⟩ rfl
  · obtain rfl : j = l.length := by omega
    rw [take_txs] at hjs ⊢
    rw [List.take_length] at hhs
    have hqt : ∀ v ∈ txs l, asc v ∧ (∀ c ∈ v, c ≠ 10 ∧ c ≠ 13) ∧ v.head? ≠ some (fnK tm) := mem_txs fun x hx => ⟨(hbs x hx).1.asc, fun c hc => ⟨((hbs x hx).1.q c hc).2.1, fun e => (hbs x hx).2.2 c hc (by rw [e]; rfl)⟩, by cases tm; exact (hhs x hx).1; exact (hhs x hx).2⟩
    have htell := fence_book tm dv p.data.toList (l := txs l) (fun e => by have h := congrArg List.length e; rw [txs, List.length_map, List.length_nil] at h; omega) hqt
    have hja : asc (ba ((txs l).flatMap crT)).data.toList := by rw [ba_list]; exact asc_flat fun x hx => asc_app (hqt x hx).1 (asc_cons (by decide) (asc_cons (by decide) asc_nil))
    have hlp := told_len p.data.toList false dv
    have hpC := told_pos (s := p.data.toList) (fr := false) (dv := dv)
    have hJl : ((txs l).flatMap crT).length ≤ 60000 := by omega
    have hFl : (fnT tm).length = 5 := rfl
    have hF : ba [fnK tm, fnK tm, fnK tm] ++ ⟨#[13, 10]⟩ = ba (fnT tm) := by rw [Txt0.data_inj]; simp [ba, fnT]
    have hFs : (ba [fnK tm, fnK tm, fnK tm]).size + (⟨#[13, 10]⟩ : ByteArray).size ≤ 9223372036854775807 := by rw [ba_size, bz2]; exact (by decide : 5 ≤ 9223372036854775807)
    repeat' ((fail_if_success (show PJ _ (Code.wp _ (Code.seq (Code.region 17 _ _) _) _) _ _)); first | first | refine cseq ?_ | refine rtext ?_ | refine cfalse rfl ?_ | refine cexit ?_ | refine jnil ?_ | (first | refine jmv rfl rfl rfl ?_ | refine jas_ rfl rfl rfl ?_ | (show Jo _ (.binOp _ _ _ _ _); refine jy (ylss rfl rfl (by (exact decide_eq_false (by omega)))) rfl rfl ?_) | (show Jo _ (.call _); ((show Jo _ (.call ⟨.value (.func 28), _, _⟩); refine jcall (ι := Row) (v := fun r' => r'.val (told p.data.toList false dv).length) (m' := fun r' => r'.mem ((told p.data.toList false dv).flatMap tiC) 59 ++ []) (fun r' => r'.ok 0 5 (told p.data.toList false dv).length ((told p.data.toList false dv).flatMap tiC)) bo16 rfl rfl rfl (parseB hW p.data.toList false dv (by omega)) (fun r2 h2 => ?_))))))
    obtain ⟨A2, c2, e2, q2, k2⟩ := row_tis h2
    generalize (txs l).flatMap crT = Jn at *
    generalize told p.data.toList false dv = lC at *
    rw [e2]
    have hC := fun (w' : World) (h : Has (r2.mem (lC.flatMap tiC) 59 ++ []) w') => k2 w' (h.sub (List.sublist_append_left _ _))
    generalize r2.mem (lC.flatMap tiC) 59 ++ [] = E at hC ⊢
    have hr := bk0 (X := ⟨86, [], fun _ => False, w⟩)
    have hnC : lC.length ≤ 1000000000 := by omega
    replace hpC : ∀ t ∈ lC, t.pos ≤ 1099511627776 := fun t ht => by have := hpC t ht; omega
    generalize hFF : fnT tm = F at *
    generalize ba [fnK tm, fnK tm, fnK tm] = fb at *
    cases tm
    all_goals
      generalize hkd : fnY _ = kd at htell
      cases hwC : wholeT lC
      all_goals
        repeat' (first | refine cseq ?_ | refine rtext ?_ | refine ctrue rfl ?_ | refine cfalse rfl ?_ | refine cskip ?_ | refine cret ?_ | refine tret ?_ | refine jnil ?_ | (first | (show Jo (some 72) (.move _); refine jy (ymove (v := .int .i64 (kd : Nat)) (by rw [← hkd]; rfl)) rfl rfl ?_) | refine jmv rfl rfl rfl ?_ | refine jas_ rfl rfl rfl ?_ | (show Jo _ (.binOp _ _ _ _ _); first | (show Jo (some 68) (.binOp .add 9 _ _ _); refine jy (ysadd (c := ba F) rfl rfl hFs hF) rfl rfl ?_) | (show Jo (some 77) (.binOp .add 9 _ _ _); refine jy (ysadd (c := ba F) rfl rfl hFs hF) rfl rfl ?_)) | refine jy (ynot rfl rfl) rfl rfl ?_ | (show Jo _ (.call _); first | (show Jo _ (.call ⟨.value (.func 29), _, _⟩); refine jcallq (v := .bool _) bo17 rfl rfl rfl (quietC fun w' hw' => wholeE (hC w' hw'.1) hnC hwC) ?_) | (show Jo _ (.call ⟨.value (.func 20), _, _⟩); refine jcall (ι := Row) (v := fun _ => .tuple #[]) (m' := fun r' => bkS g _ r' E) (fun r' => BkOk _ r' _) bo25 rfl rfl rfl (passR_calls hg hr (by (simp only [bsz_behind, bsz_put, bsz_pass, bsz_b0, ba_list, Txt0.size_list]; omega)) (by rw [ba_size]; omega)) (fun r hr => ?_)) | (show Jo _ (.call ⟨.value (.func 19), _, _⟩); refine jcall (ι := Row) (v := fun _ => .tuple #[]) (m' := fun r' => bkS g _ r' E) (fun r' => BkOk _ r' _) bo24 rfl rfl rfl (putB_calls hg hr (ty := kd) (by (simp only [bsz_behind, bsz_put, bsz_pass, bsz_b0, ba_list, Txt0.size_list]; omega)) (by rw [← hkd]; decide) (by rw [ba_size]; omega) hja) (fun r hr => ?_)) | (show Jo _ (.call ⟨.value (.func 30), _, _⟩); refine jcall (ι := Row) (v := fun _ => .tuple #[]) (m' := fun r' => bkS g _ r' E) (fun r' => BkOk _ r' _) bo18 rfl rfl rfl (behindB_calls hg hr hC hnC hpC (by (simp only [bsz_behind, bsz_put, bsz_pass, bsz_b0, ba_list, Txt0.size_list]; omega)) (by omega)) (fun r hr => ?_)) | (show Jo _ (.call ⟨.value (.func 24), _, _⟩); refine jcall0 (v := .bool true) (bkS g _ r E) bo19 rfl rfl rfl (tells_calls hW hr _ _ (by (simp only [bsz_behind, bsz_put, bsz_pass, bsz_b0, ba_list, Txt0.size_list]; omega)) htell) ?_)) | (show Jo _ (.build _ _); refine jy (ybuild rfl bu29) rfl rfl ?_) | (show Jo _ (.box 28 _); refine jbox (c := [.string ⟨#[]⟩, .slice none 0 0]) rfl rfl rfl (fun g hgT => ?_); refine jmem (m' := bkS g b0 .nil E) rfl ?_; have hg : Cx.may ⟨_, [], fun _ => False, w⟩ g := .inr hgT)))
        all_goals exact post _ _ rfl
end Go.Proofs.YtkehggbmpdacpabGreatDoor.Pg
namespace Go.Proofs.YtkehggbmpdacpabGreatDoor.PFnFrontLines
open Go.Rx Go.RowKit Go.Proofs.YtkehggbmpdacpabGreatDoorW.PrintWords
theorem laws_FnFrontLines.calls (a0 : Bool) (A1 : Option Addr) (c1 : Nat) (l1 : List ByteArray) (a2 : ByteArray) (a3 : Bool) (ret_ : Bool) (w : World) (hr1 : Kd.C Kd.string w A1 l1.length l1) (hc1 : l1.length ≤ c1) (h : ret_ = true ∧ l1.length ≤ 8796093022208 ∧ a2.size ≤ 140737488351232 ∧ Pg.Tab w) :
    Calls Tryz.prog 4 #[.bool a0, .slice A1 l1.length c1, .string a2, .bool a3] w fun e w' => e = .returned (.bool ret_) ∧ Below w.heap.size w w' := by
  obtain ⟨rfl, h1, h2, hT⟩ := h
  exact Pg.frontLines_calls a0 A1 c1 l1 a2 a3 w hT (Lw.rowAt_of rfl hr1) h1 h2
end Go.Proofs.YtkehggbmpdacpabGreatDoor.PFnFrontLines
