/- FnQuoteUnended: its walk. -/
import Derived.Test.YtkehggbmpdacpacGreatDoorLwDl
import Derived.Test.YtkehggbmpdacpacGreatDoorPg63
import Derived.Test.YtkehggbmpdacpacGreatDoorKp15
set_option maxRecDepth 100000
set_option linter.unusedVariables false
set_option linter.unusedSimpArgs false
set_option linter.unusedSectionVars false
namespace Go.Proofs.YtkehggbmpdacpacGreatDoor.Pg
open Go.Rx hiding bt
open Go.RowKit Go.Proofs.YtkehggbmpdacpacGreatDoor.Dec0 Go.Proofs.YtkehggbmpdacpacGreatDoor.Lex0
theorem rd_96 (md : Bool) : ∀ c ∈ rd md, c ≠ 96 := by cases md <;> decide
set_option maxHeartbeats 4000000 in
theorem quoteUnended_calls (md : Bool) (name value : ByteArray) (bli : Int) (w : World) (hT : Tab w) (hs0 : name.size ≤ 140737488351232) (hs1 : value.size ≤ 140737488351232) (hbl : 0 ≤ bli ∧ bli ≤ 255) :
    Calls Tryz.prog 7 #[.bool md, .string name, .string value, .int .u8 bli] w fun e w' => e = .returned (.bool true) ∧ Below w.heap.size w w' := by
  obtain ⟨bl, rfl⟩ : ∃ bl : Nat, bli = (bl : Int) := ⟨bli.toNat, by omega⟩
  refine enter (fun _ => False) 72 [] Tryz.func7 rfl rfl rfl (vs := [.bool md, .string name, .string value, .int .u8 bl]) (Has.nil _) ?_
  conv => arg 2; arg 2; whnf
  have hW : ∃ W, Bs W ⟨72, [], fun _ => False, w⟩ ∧ Tab W := ⟨w, ⟨Below.refl _ _, fun k h => h.elim⟩, hT⟩
  have post : ∀ (f : Fr) (m : Mem), Rx.look f 8 = some (.bool true) → PJ ⟨72, [], fun _ => False, w⟩ (bodyPost Tryz.prog Tryz.f7 (fun e w' => e = .returned (.bool true) ∧ Below w.heap.size w w') .ret) f m := fun f m hf =>
    ret1 rfl rfl hf (fun w' hw' => ⟨rfl, hw'.2.below (fun k _ h => h) (Nat.le_refl _)⟩)
  have herrA : Lw.NameF name → Lw.QuoteF value → ∀ s : ByteArray, s.data.toList = lf md ++ 32 :: (name.data.toList ++ 32 :: 34 :: value.data.toList) → asc s.data.toList ∧ Errs envT s.data.toList := by
    intro hb hv s hs
    have hna := hb.1.asc
    have hva := hv.1.asc
    rw [hs]
    refine ⟨?_, ?_⟩
    · repeat' (first | exact asc_lf _ | assumption | refine asc_app ?_ ?_ | refine asc_cons (by decide) ?_)
    · have := err_quote ea_env tra_env md hb.1 (v := value.data.toList) (r := []) hv.1 (.inl rfl) asc_nil
      rw [List.append_nil] at this
      exact this
  have herrB : Lw.NameF name → Lw.QuoteF value → ∀ s : ByteArray, s.data.toList = lf md ++ 32 :: (name.data.toList ++ 32 :: 34 :: (value.data.toList ++ 10 :: 34 :: 32 :: rd md)) → asc s.data.toList ∧ Errs envT s.data.toList := by
    intro hb hv s hs
    have hna := hb.1.asc
    have hva := hv.1.asc
    rw [hs]
    refine ⟨?_, err_quote ea_env tra_env md hb.1 (v := value.data.toList) (r := 10 :: 34 :: 32 :: rd md) hv.1 (.inr ⟨_, rfl⟩) ?_⟩
    all_goals repeat' (first | exact asc_lf _ | exact asc_rd _ | assumption | refine asc_app ?_ ?_ | refine asc_cons (by decide) ?_)
  have herrC : Lw.NameF name → Lw.QuoteF value → Txt0.hasT [96] value.data.toList = false → ∀ s : ByteArray, s.data.toList = lf md ++ 32 :: (name.data.toList ++ 32 :: 96 :: (value.data.toList ++ 10 :: rd md)) → asc s.data.toList ∧ Errs envT s.data.toList := by
    intro hb hv hh s hs
    have hna := hb.1.asc
    have hva := hv.1.asc
    rw [hs]
    have hq := Lw.has_one hh
    refine ⟨?_, err_raw ea_env tra_env md hb.1 (v := value.data.toList ++ 10 :: rd md) ?_ (fun c hc => ?_)⟩
    · repeat' (first | exact asc_lf _ | exact asc_rd _ | assumption | refine asc_app ?_ ?_ | refine asc_cons (by decide) ?_)
    · repeat' (first | exact asc_rd _ | assumption | refine asc_app ?_ ?_ | refine asc_cons (by decide) ?_)
    · rcases List.mem_append.1 hc with h | h
      · exact hq c h
      · rcases List.mem_cons.1 h with rfl | h
        · decide
        · exact rd_96 md c h
  rcases show bl % 3 = 0 ∨ bl % 3 = 1 ∨ bl % 3 = 2 by omega with h3 | h3 | h3
  · repeat' (first | (show Jo _ (.call ⟨.value (.func 28), _, _⟩); have herr := herrA hb hv; first | (show Jo _ (.call ⟨.value (.func 28), _, _⟩); refine jcall0 (v := .bool true) [] bo34 rfl rfl rfl (errs_calls hW (by simp only [ByteArray.size_append, ba_lf_sz, ba_rd_sz, bz1, bz2, bz3]; omega) (herr _ (by simp [Txt0.app_list, ba_list])).1 (herr _ (by simp [Txt0.app_list, ba_list])).2) ?_)) | first | refine cseq ?_ | refine rtext ?_ | refine ctrue rfl ?_ | refine cfalse rfl ?_ | refine cskip ?_ | refine cblk ?_ | refine cret ?_ | refine tret ?_ | refine bret ?_ | refine jnil ?_ | (first | refine js rfl rfl ?_ | refine jmv rfl rfl rfl ?_ | refine jas_ rfl rfl rfl ?_ | (show Jo _ (.binOp _ _ _ _ _); first | (show Jo _ (.binOp .gtr _ _ _ _); refine jgtr rfl rfl rfl rfl (fun hq => ?_) (fun hq => ?_)) | (show Jo _ (.binOp .add 9 _ _ _); refine jy (ysadd rfl rfl (by simp only [ByteArray.size_append, ba_lf_sz, ba_rd_sz, bz1, bz2, bz3]; omega) rfl) rfl rfl ?_) | (show Jo _ (.binOp .rem 5 _ _ _); refine jy (yremR (c := ((bl % 3 : Nat) : Int)) rfl rfl (by decide) (by rw [Int.tmod_eq_emod_of_nonneg (Int.natCast_nonneg _)]; omega)) rfl rfl ?_) | refine jy (yeql rfl rfl (by (exact decide_eq_true (by omega)))) rfl rfl ?_) | (show Jo _ (.pick _ _ _); first | refine jy (ypick1 rfl rfl) rfl rfl ?_ | refine jy (ypick0 rfl rfl) rfl rfl ?_) | refine jy (ynot rfl rfl) rfl rfl ?_ | (show Jo _ (.call _); first | (show Jo _ (.call ⟨.builtin .len, _, #[9]⟩); refine jy (ylens rfl Lw.und9) rfl rfl ?_) | (show Jo _ (.call ⟨.value (.func 26), _, _⟩); refine jcall (ι := Bool) (v := fun b => .bool b) (m' := fun _ => _) (fun b => b = true → Lw.NameF _) Lw.boNm rfl rfl rfl (Lw.named_in (by omega)) (fun b hk => ?_); refine jcases (fun hb => ?_) (fun hb => ?_); try (replace hb := hk hb; have hna := hb.1.asc; have hns := hb.2)) | (show Jo _ (.call ⟨.value (.func 23), _, _⟩); refine jcall (ι := Bool) (v := fun b => .bool b) (m' := fun _ => _) (fun b => b = true → Lw.QuoteF _) Lw.boQt rfl rfl rfl (Lw.quotable_in (by omega)) (fun b hk => ?_); refine jcases (fun hv => ?_) (fun hv => ?_); try (replace hv := hk hv; have hva := hv.1.asc; have hvs := hv.2.1)) | (show Jo _ (.call ⟨.value (.func 14), _, _⟩); refine jcallq Lw.boHas rfl rfl rfl (Lw.has_in (by omega) (by decide)) ?_; refine jcases (fun hh => ?_) (fun hh => ?_)) | (show Jo _ (.call ⟨.value (.func 27), _, _⟩); refine jcallq Lw.boDl rfl rfl rfl Lw.delim_in ?_)) | (show Jo _ (.extract _ _); refine jy (yextractL rfl rfl) rfl rfl ?_)))
    all_goals exact post _ _ rfl
  · repeat' (first | (show Jo _ (.call ⟨.value (.func 28), _, _⟩); have herr := herrB hb hv; first | (show Jo _ (.call ⟨.value (.func 28), _, _⟩); refine jcall0 (v := .bool true) [] bo34 rfl rfl rfl (errs_calls hW (by simp only [ByteArray.size_append, ba_lf_sz, ba_rd_sz, bz1, bz2, bz3]; omega) (herr _ (by simp [Txt0.app_list, ba_list])).1 (herr _ (by simp [Txt0.app_list, ba_list])).2) ?_)) | first | refine cseq ?_ | refine rtext ?_ | refine ctrue rfl ?_ | refine cfalse rfl ?_ | refine cskip ?_ | refine cblk ?_ | refine cret ?_ | refine tret ?_ | refine bret ?_ | refine jnil ?_ | (first | refine js rfl rfl ?_ | refine jmv rfl rfl rfl ?_ | refine jas_ rfl rfl rfl ?_ | (show Jo _ (.binOp _ _ _ _ _); first | (show Jo _ (.binOp .gtr _ _ _ _); refine jgtr rfl rfl rfl rfl (fun hq => ?_) (fun hq => ?_)) | (show Jo _ (.binOp .add 9 _ _ _); refine jy (ysadd rfl rfl (by simp only [ByteArray.size_append, ba_lf_sz, ba_rd_sz, bz1, bz2, bz3]; omega) rfl) rfl rfl ?_) | (show Jo _ (.binOp .rem 5 _ _ _); refine jy (yremR (c := ((bl % 3 : Nat) : Int)) rfl rfl (by decide) (by rw [Int.tmod_eq_emod_of_nonneg (Int.natCast_nonneg _)]; omega)) rfl rfl ?_) | refine jy (yeql rfl rfl (by first | exact decide_eq_true (by omega) | exact decide_eq_false (by omega))) rfl rfl ?_) | (show Jo _ (.pick _ _ _); first | refine jy (ypick1 rfl rfl) rfl rfl ?_ | refine jy (ypick0 rfl rfl) rfl rfl ?_) | refine jy (ynot rfl rfl) rfl rfl ?_ | (show Jo _ (.call _); first | (show Jo _ (.call ⟨.builtin .len, _, #[9]⟩); refine jy (ylens rfl Lw.und9) rfl rfl ?_) | (show Jo _ (.call ⟨.value (.func 26), _, _⟩); refine jcall (ι := Bool) (v := fun b => .bool b) (m' := fun _ => _) (fun b => b = true → Lw.NameF _) Lw.boNm rfl rfl rfl (Lw.named_in (by omega)) (fun b hk => ?_); refine jcases (fun hb => ?_) (fun hb => ?_); try (replace hb := hk hb; have hna := hb.1.asc; have hns := hb.2)) | (show Jo _ (.call ⟨.value (.func 23), _, _⟩); refine jcall (ι := Bool) (v := fun b => .bool b) (m' := fun _ => _) (fun b => b = true → Lw.QuoteF _) Lw.boQt rfl rfl rfl (Lw.quotable_in (by omega)) (fun b hk => ?_); refine jcases (fun hv => ?_) (fun hv => ?_); try (replace hv := hk hv; have hva := hv.1.asc; have hvs := hv.2.1)) | (show Jo _ (.call ⟨.value (.func 14), _, _⟩); refine jcallq Lw.boHas rfl rfl rfl (Lw.has_in (by omega) (by decide)) ?_; refine jcases (fun hh => ?_) (fun hh => ?_)) | (show Jo _ (.call ⟨.value (.func 27), _, _⟩); refine jcallq Lw.boDl rfl rfl rfl Lw.delim_in ?_)) | (show Jo _ (.extract _ _); refine jy (yextractL rfl rfl) rfl rfl ?_)))
    all_goals exact post _ _ rfl
  · repeat' (first | (show Jo _ (.call ⟨.value (.func 28), _, _⟩); have herr := herrC hb hv hh; first | (show Jo _ (.call ⟨.value (.func 28), _, _⟩); refine jcall0 (v := .bool true) [] bo34 rfl rfl rfl (errs_calls hW (by simp only [ByteArray.size_append, ba_lf_sz, ba_rd_sz, bz1, bz2, bz3]; omega) (herr _ (by simp [Txt0.app_list, ba_list])).1 (herr _ (by simp [Txt0.app_list, ba_list])).2) ?_)) | first | refine cseq ?_ | refine rtext ?_ | refine ctrue rfl ?_ | refine cfalse rfl ?_ | refine cskip ?_ | refine cblk ?_ | refine cret ?_ | refine tret ?_ | refine jnil ?_ | (first | refine js rfl rfl ?_ | refine jmv rfl rfl rfl ?_ | refine jas_ rfl rfl rfl ?_ | (show Jo _ (.binOp _ _ _ _ _); first | (show Jo _ (.binOp .gtr _ _ _ _); refine jgtr rfl rfl rfl rfl (fun hq => ?_) (fun hq => ?_)) | (show Jo _ (.binOp .add 9 _ _ _); refine jy (ysadd rfl rfl (by simp only [ByteArray.size_append, ba_lf_sz, ba_rd_sz, bz1, bz2, bz3]; omega) rfl) rfl rfl ?_) | (show Jo _ (.binOp .rem 5 _ _ _); refine jy (yremR (c := ((bl % 3 : Nat) : Int)) rfl rfl (by decide) (by rw [Int.tmod_eq_emod_of_nonneg (Int.natCast_nonneg _)]; omega)) rfl rfl ?_) | refine jy (yeql rfl rfl (by (exact decide_eq_false (by omega)))) rfl rfl ?_) | (show Jo _ (.pick _ _ _); first | refine jy (ypick1 rfl rfl) rfl rfl ?_ | refine jy (ypick0 rfl rfl) rfl rfl ?_) | refine jy (ynot rfl rfl) rfl rfl ?_ | (show Jo _ (.call _); first | (show Jo _ (.call ⟨.builtin .len, _, #[9]⟩); refine jy (ylens rfl Lw.und9) rfl rfl ?_) | (show Jo _ (.call ⟨.value (.func 26), _, _⟩); refine jcall (ι := Bool) (v := fun b => .bool b) (m' := fun _ => _) (fun b => b = true → Lw.NameF _) Lw.boNm rfl rfl rfl (Lw.named_in (by omega)) (fun b hk => ?_); refine jcases (fun hb => ?_) (fun hb => ?_); try (replace hb := hk hb; have hna := hb.1.asc; have hns := hb.2)) | (show Jo _ (.call ⟨.value (.func 23), _, _⟩); refine jcall (ι := Bool) (v := fun b => .bool b) (m' := fun _ => _) (fun b => b = true → Lw.QuoteF _) Lw.boQt rfl rfl rfl (Lw.quotable_in (by omega)) (fun b hk => ?_); refine jcases (fun hv => ?_) (fun hv => ?_); try (replace hv := hk hv; have hva := hv.1.asc; have hvs := hv.2.1)) | (show Jo _ (.call ⟨.value (.func 14), _, _⟩); refine jcallq Lw.boHas rfl rfl rfl (Lw.has_in (by omega) (by decide)) ?_; refine jcases (fun hh => ?_) (fun hh => ?_)) | (show Jo _ (.call ⟨.value (.func 27), _, _⟩); refine jcallq Lw.boDl rfl rfl rfl Lw.delim_in ?_)) | (show Jo _ (.extract _ _); refine jy (yextractL rfl rfl) rfl rfl ?_)))
    all_goals exact post _ _ rfl
end Go.Proofs.YtkehggbmpdacpacGreatDoor.Pg
namespace Go.Proofs.YtkehggbmpdacpacGreatDoor.PFnQuoteUnended
open Go.Rx Go.RowKit Go.Proofs.YtkehggbmpdacpacGreatDoorW.PrintWords
theorem laws_FnQuoteUnended.calls (a0 : Bool) (a1 : ByteArray) (a2 : ByteArray) (a3 : Int) (ret_ : Bool) (w : World)  (h : ret_ = true ∧ a1.size ≤ 140737488351232 ∧ a2.size ≤ 140737488351232 ∧ (0 ≤ a3 ∧ a3 ≤ 255) ∧ Pg.Tab w) :
    Calls Tryz.prog 7 #[.bool a0, .string a1, .string a2, .int .u8 a3] w fun e w' => e = .returned (.bool ret_) ∧ Below w.heap.size w w' := by
  obtain ⟨rfl, h1, h2, h3, hT⟩ := h
  exact Pg.quoteUnended_calls a0 a1 a2 a3 w hT h1 h2 h3
end Go.Proofs.YtkehggbmpdacpacGreatDoor.PFnQuoteUnended
