/- FnUnended: its walk. -/
import Derived.Test.YtkehggbmpdacpacGreatDoorLwDl
import Derived.Test.YtkehggbmpdacpacGreatDoorLwPr
import Derived.Test.YtkehggbmpdacpacGreatDoorLwQs
import Derived.Test.YtkehggbmpdacpacGreatDoorPg63
import Derived.Test.YtkehggbmpdacpacGreatDoorPl4
import Derived.Test.YtkehggbmpdacpacGreatDoorKp15
set_option maxRecDepth 100000
set_option linter.unusedVariables false
set_option linter.unusedSimpArgs false
set_option linter.unusedSectionVars false
namespace Go.Proofs.YtkehggbmpdacpacGreatDoor.Pg
open Go.Rx hiding bt
open Go.RowKit Go.Proofs.YtkehggbmpdacpacGreatDoor.Dec0 Go.Proofs.YtkehggbmpdacpacGreatDoor.Lex0
set_option maxHeartbeats 4000000 in
theorem unended_calls (md : Bool) (ahead name : ByteArray) (A : Option Addr) (c : Nat) (l : List ByteArray) (w : World) (hT : Tab w) (hs0 : ahead.size ≤ 140737488351232) (hs1 : name.size ≤ 140737488351232) (ha : RowAt nof w (.slice A l.length c) l.length (Lw.strs l)) (hl : l.length ≤ 8796093022208) :
    Calls Tryz.prog 12 #[.bool md, .string ahead, .string name, .slice A l.length c] w fun e w' => e = .returned (.bool true) ∧ Below w.heap.size w w' := by
  refine enter (fun _ => False) 74 [] Tryz.func12 rfl rfl rfl (vs := [.bool md, .string ahead, .string name, .slice A l.length c]) (Has.nil _) ?_
  conv => arg 2; arg 2; whnf
  have hW : ∃ W, Bs W ⟨74, [], fun _ => False, w⟩ ∧ Tab W := ⟨w, ⟨Below.refl _ _, fun k h => h.elim⟩, hT⟩
  have post : ∀ (f : Fr) (m : Mem), Rx.look f 8 = some (.bool true) → PJ ⟨74, [], fun _ => False, w⟩ (bodyPost Tryz.prog Tryz.f12 (fun e w' => e = .returned (.bool true) ∧ Below w.heap.size w w') .ret) f m := fun f m hf =>
    ret1 rfl rfl hf (fun w' hw' => ⟨rfl, hw'.2.below (fun k _ h => h) (Nat.le_refl _)⟩)
  have hem : ahead = ⟨#[]⟩ → ahead.size = 0 ∧ ahead.data.toList = [] := fun h => by rw [h]; exact ⟨rfl, rfl⟩
  repeat' ((fail_if_success (show PJ _ (Code.wp _ (Code.loop _) _) _ _)); first | first | refine cseq ?_ | refine rtext ?_ | refine ctrue rfl ?_ | refine cfalse rfl ?_ | refine cskip ?_ | refine cblk ?_ | refine cret ?_ | refine tret ?_ | refine jnil ?_ | (first | refine js rfl rfl ?_ | refine jmv rfl rfl rfl ?_ | refine jas_ rfl rfl rfl ?_ | (show Jo _ (.binOp _ _ _ _ _); first | (show Jo _ (.binOp .gtr _ _ _ _); refine jgtr rfl rfl rfl rfl (fun hq => ?_) (fun hq => ?_)) | (show Jo _ (.binOp .add 9 _ _ _); (refine jy (ysadd rfl rfl (by simp only [ByteArray.size_append, ba_lf_sz, ba_rd_sz, bz1, bz2, bz3]; omega) rfl) rfl rfl ?_)) | (show Jo _ (.binOp .neq 9 _ _ _); refine jsneq rfl rfl rfl rfl (fun hine => ?_) (fun hine => ?_))) | (show Jo _ (.pick _ _ _); first | refine jy (ypick1 rfl rfl) rfl rfl ?_ | refine jy (ypick0 rfl rfl) rfl rfl ?_) | refine jy (ynot rfl rfl) rfl rfl ?_ | (show Jo _ (.call _); first | (show Jo _ (.call ⟨.builtin .len, _, #[9]⟩); refine jy (ylens rfl Lw.und9) rfl rfl ?_) | (show Jo _ (.call ⟨.builtin .len, _, _⟩); refine jy (ylenl rfl Lw.und24) rfl rfl ?_) | (show Jo _ (.call ⟨.value (.func 26), _, _⟩); refine jcall (ι := Bool) (v := fun b => .bool b) (m' := fun _ => _) (fun b => b = true → Lw.NameF _) Lw.boNm rfl rfl rfl (Lw.named_in (by omega)) (fun b hk => ?_); refine jcases (fun hb => ?_) (fun hb => ?_); try (replace hb := hk hb; have hna := hb.1.asc; have hns := hb.2)) | (show Jo _ (.call ⟨.value (.func 17), _, _⟩); refine jcall (ι := Bool) (v := fun b => .bool b) (m' := fun _ => _) (fun b => b = true → Lw.ProseF _) Lw.boPr rfl rfl rfl (Lw.prose_in (by omega)) (fun b hk => ?_); refine jcases (fun hp => ?_) (fun hp => ?_); try (replace hp := hk hp; have hpa := hp.1.asc; have hps := hp.2)) | (show Jo _ (.call ⟨.value (.func 21), _, _⟩); refine jcallq Lw.boFit rfl rfl rfl (Lw.fits3_in ha (fun _ h => h) (by omega)) ?_; refine jcases (fun hf => ?_) (fun hf => ?_)) | (show Jo _ (.call ⟨.value (.func 29), _, _⟩); refine jcall (ι := Bool) (v := fun b => .bool b) (m' := fun _ => _) (fun b => b = true → l.length ≤ 50 ∧ ∀ x ∈ l, Lw.QuoteF x) Lw.boQs rfl rfl rfl (Lw.quotables_in ha (fun _ h => h) (by omega) (Lw.fits3_all hf)) (fun b hk => ?_); refine jcases (fun hbs => ?_) (fun hbs => ?_); try replace hbs := hk hbs) | (show Jo _ (.call ⟨.value (.func 27), _, _⟩); refine jcallq Lw.boDl rfl rfl rfl Lw.delim_in ?_)) | (show Jo _ (.extract _ _); refine jy (yextractL rfl rfl) rfl rfl ?_)))
  all_goals first | exact post _ _ rfl | skip
  all_goals
    have hpp : ahead.data.toList = [] ∨ ProseT ahead.data.toList := by first | exact .inr hp.1 | exact .inl (hem hine).2
    have hps' : ahead.size ≤ 65536 := by first | omega | (have := (hem hine).1; omega)
    obtain ⟨hl50, hbq⟩ := hbs
    obtain ⟨_, _, e, ha⟩ := ha
    cases e
    have hpa : asc ahead.data.toList := by rcases hpp with h | h; rw [h]; exact asc_nil; exact h.asc
    have hqa : asc (qS (txs l)) := asc_flat fun v hv => asc_cons (by decide) (asc_cons (by decide) (asc_app (mem_txs (p := QT) (fun x hx => (hbq x hx).1) v hv).asc (asc_cons (by decide) asc_nil)))
    have herr : ∀ s : ByteArray, s.data.toList = ahead.data.toList ++ (lf md ++ 32 :: (name.data.toList ++ qS (txs l))) → (asc s.data.toList ∧ Errs envT s.data.toList) ∧ (asc (s ++ (⟨#[32]⟩ : ByteArray)).data.toList ∧ Errs envT (s ++ (⟨#[32]⟩ : ByteArray)).data.toList) := by
      intro s hs
      have h2 := err_unended ea_env tra_env md hb.1 hpp (txs l) (mem_txs fun x hx => (hbq x hx).1)
      have e2 : (s ++ (⟨#[32]⟩ : ByteArray)).data.toList = ahead.data.toList ++ (lf md ++ 32 :: (name.data.toList ++ (qS (txs l) ++ [32]))) := by rw [Txt0.app_list, hs]; simp
      rw [e2, hs]
      refine ⟨⟨?_, h2.1⟩, ?_, h2.2⟩
      all_goals repeat' (first | exact asc_lf _ | assumption | exact asc_nil | refine asc_app ?_ ?_ | refine asc_cons (by decide) ?_)
    refine fin (f' := [(11, .string (((ahead ++ ba (lf md)) ++ ⟨#[32]⟩) ++ name)), (55, .slice A l.length c), (56, .int .i64 l.length), (57, .int .i64 (0 : Nat))]) (m' := [])
      (cloop (ι := Nat × ByteArray) (fun q => [(11, .string q.2), (55, .slice A l.length c), (56, .int .i64 l.length), (57, .int .i64 (q.1 : Nat))]) (fun _ => []) (fun k q => k = l.length - q.1 ∧ q.1 ≤ l.length ∧ q.2.data.toList = ahead.data.toList ++ (lf md ++ 32 :: (name.data.toList ++ qS ((txs l).take q.1))) ∧ q.2.size ≤ 66000 + 1100 * q.1) l.length (0, ((ahead ++ ba (lf md)) ++ ⟨#[32]⟩) ++ name) ⟨rfl, Nat.zero_le _, by simp [Txt0.app_list, ba_list, qS], by simp only [ByteArray.size_append, ba_lf_sz, bz1]; omega⟩ ?_) ⟨rfl, rfl, rfl, rfl, trivial⟩ rfl
    rintro k ⟨j, s⟩ ⟨rfl, hj, hS, hsz⟩ K hK
    dsimp only at hj hS hsz hK ⊢
    by_cases hlt : j < l.length
    · obtain ⟨x, hx⟩ : ∃ x, l[j]? = some x := ⟨_, List.getElem?_eq_getElem hlt⟩
      have hxs := (hbq x (List.mem_of_getElem? hx)).2.1
      obtain ⟨ad, rfl, _, hc⟩ := ha j (.string x) (by simp [Lw.strs, hx])
      have hk := hK (l.length - (j + 1)) (j + 1, s ++ (((⟨#[32, 34]⟩ : ByteArray) ++ x) ++ ⟨#[34]⟩)) (by omega) ⟨rfl, by dsimp only; omega, by
        dsimp only
        rw [Txt0.app_list, hS, List.take_add_one, txs_at hx]
        simp [qS, Txt0.app_list], by
        simp only [ByteArray.size_append, bz1, bz2]
        omega⟩
      dsimp only at hk
      repeat' (first | refine cseq ?_ | refine rtext ?_ | refine ctrue rfl ?_ | refine cskip ?_ | refine cblk ?_ | refine tnorm ?_ | refine jnil ?_ | (first | refine jmv rfl rfl rfl ?_ | (show Jo _ (.load _ _); refine jy (yloadw rfl hc (fun h => h) Lw.one9) rfl rfl ?_) | refine jas_ rfl rfl rfl ?_ | (show Jo _ (.binOp _ _ _ _ _); first | (show Jo _ (.binOp .add 9 _ _ _); (refine jy (ysadd rfl rfl (by simp only [ByteArray.size_append, ba_lf_sz, ba_rd_sz, bz1, bz2, bz3]; omega) rfl) rfl rfl ?_)) | (show Jo _ (.binOp .add 3 _ _ _); refine jy (yadd (c := ((j + 1 : Nat) : Int)) rfl rfl (by rw [i64_in (by omega) (by omega)]; omega)) rfl rfl ?_) | refine jy (ylss rfl rfl (by (exact decide_eq_true (by omega)))) rfl rfl ?_) | (show Jo _ (.indexAddr _ _ _); refine jy (yat (p' := ad.add j) rfl rfl Lw.und24 Lw.sz9 (by omega) (by omega) (by simp)) rfl rfl ?_)))
      exact fin hk ⟨rfl, rfl, rfl, rfl, trivial⟩ rfl
    · obtain rfl : j = l.length := by omega
      rw [take_txs] at hS
      repeat' (first | (show Jo (some 68) (.call _); refine jcall0 (v := .bool true) [] bo34 rfl rfl rfl (errs_calls hW (by omega) (herr s hS).1.1 (herr s hS).1.2) ?_) | (show Jo (some 72) (.call _); refine jcall0 (v := .bool true) [] bo34 rfl rfl rfl (errs_calls hW (by simp only [ByteArray.size_append, bz1]; omega) (herr s hS).2.1 (herr s hS).2.2) ?_) | first | refine cseq ?_ | refine rtext ?_ | refine cfalse rfl ?_ | refine cret ?_ | refine cexit ?_ | refine jnil ?_ | (first | refine jmv rfl rfl rfl ?_ | refine jas_ rfl rfl rfl ?_ | (show Jo _ (.binOp _ _ _ _ _); first | (show Jo _ (.binOp .add 9 _ _ _); (refine jy (ysadd rfl rfl (by simp only [ByteArray.size_append, ba_lf_sz, ba_rd_sz, bz1, bz2, bz3]; omega) rfl) rfl rfl ?_)) | refine jy (ylss rfl rfl (by (exact decide_eq_false (by omega)))) rfl rfl ?_) | (show Jo _ (.pick _ _ _); refine jy (ypick1 rfl rfl) rfl rfl ?_)))
      exact post _ _ rfl
end Go.Proofs.YtkehggbmpdacpacGreatDoor.Pg
namespace Go.Proofs.YtkehggbmpdacpacGreatDoor.PFnUnended
open Go.Rx Go.RowKit Go.Proofs.YtkehggbmpdacpacGreatDoorW.PrintWords
theorem laws_FnUnended.calls (a0 : Bool) (a1 : ByteArray) (a2 : ByteArray) (A3 : Option Addr) (c3 : Nat) (l3 : List ByteArray) (ret_ : Bool) (w : World) (hr3 : Kd.C Kd.string w A3 l3.length l3) (hc3 : l3.length ≤ c3) (h : ret_ = true ∧ a1.size ≤ 140737488351232 ∧ a2.size ≤ 140737488351232 ∧ l3.length ≤ 8796093022208 ∧ Pg.Tab w) :
    Calls Tryz.prog 12 #[.bool a0, .string a1, .string a2, .slice A3 l3.length c3] w fun e w' => e = .returned (.bool ret_) ∧ Below w.heap.size w w' := by
  obtain ⟨rfl, h1, h2, h3, hT⟩ := h
  exact Pg.unended_calls a0 a1 a2 A3 c3 l3 w hT h1 h2 (Lw.rowAt_of rfl hr3) h3
end Go.Proofs.YtkehggbmpdacpacGreatDoor.PFnUnended
