/- FnFields, the plain law: a path's fields are the parts between slashes, without the empty ones; joined by slashes they have the same fields; for every text. -/
import Derived.Test.YtelijbnnhgmklaaPFnFieldsx1
import Derived.Test.YtelijbnnhgmklaaOwnFields
import Derived.Test.YtelijbnnhgmklaaFlds0
import Derived.Test.YtelijbnnhgmklaaSame0FnFields
namespace Go.Proofs.Ytelijbnnhgmklaa.Pure
open Go.RowKit Go.Proofs.Ytelijbnnhgmklaa.PFnFields Go.Proofs.YtelijbnnhgmklaaW.PrintWords Go.Proofs.YtelijbnnhgmklaaW.PrintLast Go.Proofs.Ytelijbnnhgmklaa.Lib0 Go.Proofs.Ytelijbnnhgmklaa.Flds0 Go.Proofs.Ytelijbnnhgmklaa.Same0FnFields

theorem isSl_iff (x : Nat) : isSl x = true ↔ x = 47 := by unfold isSl; simp; omega

theorem code_fields (s : ByteArray) (hs : s.size ≤ 4294967296) : impl_FieldsSlash.f s = some (Lib.goFieldsP isSl s) := by
  unfold impl_FieldsSlash.f paths_FieldsSlash.f
  rw [if_pos hs]; rfl

theorem ff_spec (s : ByteArray) (hs : s.size ≤ 140737488351232) : ∀ (d i from_ : Nat) (acc : List ByteArray), s.size + 1 - i = d → i ≤ s.size + 1 → from_ ≤ i → acc.length ≤ i → acc.length ≤ 65537 → s.size ≤ 65536 →
    ∃ r, Ev (fun k => spec_FieldsSlash.l0 k s acc (from_ : Int) (i : Int)) r ∧ datas r = datas acc ++ (if i ≤ s.size then flds (s.data.toList.drop i) (piece s from_ i) else []) := by
  intro d
  induction d with
  | zero =>
    intro i from_ acc hd hi hf ha ha' hz
    refine ⟨acc, Ev.step (f := fun _ => some acc) (fun k => ?_) (Ev.now _), ?_⟩
    · simp only [spec_FieldsSlash.l0]; rw [if_neg (by omega)]
    · rw [if_neg (by omega), List.append_nil]
  | succ d ih =>
    intro i from_ acc hd hi hf ha ha' hz
    have c1 : (i : Int) ≤ (s.size : Int) := by omega
    have w1 : wrap64 ((i : Int) + 1) = ((i + 1 : Nat) : Int) := by rw [wrap_id _ (by omega)]; rfl
    have pl := piece_len s from_ i (by omega)
    -- a slash, or the end
    have cut : ∃ r, Ev (fun k => spec_FieldsSlash.j1 k s acc (from_ : Int) (i : Int) true) r ∧ datas r = datas acc ++ fpart (piece s from_ i) ++ (if i + 1 ≤ s.size then flds (s.data.toList.drop (i + 1)) [] else []) := by
      by_cases h : i > from_
      · obtain ⟨r, hr, he⟩ := ih (i + 1) (i + 1) (acc ++ [s.extract from_ i]) (by omega) (by omega) (by omega) (by simp; omega) (by simp; omega) hz
        refine ⟨r, Ev.step (fun k => ?_) hr, ?_⟩
        · have b1 : (i : Int) > (from_ : Int) := by omega
          have b2 : (0 : Int) ≤ (from_ : Int) := by omega
          have b3 : (from_ : Int) ≤ (i : Int) := by omega
          have b4 : acc.length < 8796093022208 := by omega
          simp only [spec_FieldsSlash.j1, if_true, if_pos b1, if_pos b2, if_pos b3, if_pos c1, if_pos b4, w1]
          rfl
        · have hn : piece s from_ i ≠ [] := fun e => by rw [e] at pl; simp at pl; omega
          have e0 : piece s (i + 1) (i + 1) = [] := by unfold piece; exact List.drop_eq_nil_of_le (by simp; omega)
          have pd : (s.extract from_ i).data.toList = piece s from_ i := piece_data _ _ _
          rw [he, e0]
          simp only [datas, List.map_append, List.map_cons, List.map_nil, pd, fpart, if_neg hn]
      · have e : from_ = i := by omega
        obtain ⟨r, hr, he⟩ := ih (i + 1) (i + 1) acc (by omega) (by omega) (by omega) (by omega) ha' hz
        refine ⟨r, Ev.step (fun k => ?_) hr, ?_⟩
        · have b1 : ¬ (i : Int) > (from_ : Int) := by omega
          simp only [spec_FieldsSlash.j1, if_true, if_neg b1, w1]
        · have hn : piece s from_ i = [] := List.eq_nil_of_length_eq_zero (by omega)
          have e0 : piece s (i + 1) (i + 1) = [] := by unfold piece; exact List.drop_eq_nil_of_le (by simp; omega)
          rw [he, e0, hn]
          simp [fpart]
    by_cases h : i = s.size
    · obtain ⟨r, hr, he⟩ := cut
      refine ⟨r, Ev.step (fun k => ?_) hr, ?_⟩
      · have b1 : (i : Int) = (s.size : Int) := by omega
        simp only [spec_FieldsSlash.l0, if_pos c1, if_pos b1]
      · have hd' : s.data.toList.drop i = [] := List.drop_eq_nil_of_le (by rw [size_len]; omega)
        rw [he, if_neg (by omega), if_pos (by omega), hd', List.append_nil]; rfl
    · have hlt : i < s.size := by omega
      have hl : i < s.data.toList.length := by rw [size_len]; exact hlt
      have b1 : ¬ (i : Int) = (s.size : Int) := by omega
      have b2 : (0 : Int) ≤ (i : Int) := by omega
      have b3 : (i : Int) < (s.size : Int) := by omega
      by_cases hb : bt s i = 47
      · obtain ⟨r, hr, he⟩ := cut
        refine ⟨r, Ev.step (fun k => ?_) hr, ?_⟩
        · have q : (bt s (i : Int) == 47) = true := by simpa using hb
          simp only [spec_FieldsSlash.l0, if_pos c1, if_neg b1, if_pos b2, if_pos b3, q]
        · have hx : s.data.toList[i] = 47 := by rw [← byte_sl, ← byte_at]; exact hb
          rw [he, if_pos (by omega), if_pos (by omega), flds_step i hl, if_pos hx, List.append_assoc]
      · obtain ⟨r, hr, he⟩ := ih (i + 1) from_ acc (by omega) (by omega) (by omega) (by omega) ha' hz
        refine ⟨r, Ev.step (f := fun k => spec_FieldsSlash.j1 k s acc (from_ : Int) (i : Int) false) (fun k => ?_) (Ev.step (fun k => ?_) hr), ?_⟩
        · have q : (bt s (i : Int) == 47) = false := by simpa using hb
          simp only [spec_FieldsSlash.l0, if_pos c1, if_neg b1, if_pos b2, if_pos b3, q]
        · simp only [spec_FieldsSlash.j1, Bool.false_eq_true, if_false, w1]
        · have hx : ¬ s.data.toList[i] = 47 := by rw [← byte_sl, ← byte_at]; exact hb
          have pa := piece_add s from_ i (i + 1) (by omega) (by omega) (by omega)
          have p1 : piece s i (i + 1) = [s.data.toList[i]] := by
            unfold piece
            rw [List.take_succ_eq_append_getElem hl, List.drop_append_of_le_length (by simp; omega)]
            simp
          rw [he, if_pos (by omega), if_pos (by omega), flds_step i hl, if_neg hx, ← pa, p1]

theorem total_take (G : List (List UInt8)) (i : Nat) : total (G.take i) ≤ total G := by
  conv => rhs; rw [← List.take_append_drop i G, total_app]
  omega

theorem ff_join (s : ByteArray) (F : List ByteArray) (hz : s.size ≤ 65536) (hF : datas F = flds s.data.toList []) :
    ∀ (d i : Nat) (t : ByteArray), F.length - i = d → i ≤ F.length → t.size = total ((datas F).take i) - 1 →
    (if i = 0 then Stands t.data.toList [] [] else Stands t.data.toList ((datas F).take (i - 1)) ((datas F).getD (i - 1) [])) →
    Ev (fun k => laws_FnFields.l0 k s F t F (F.length : Int) i) true := by
  have hlen : (datas F).length = F.length := by simp [datas]
  have htot : total (datas F) ≤ s.size + 1 := by
    have := flds_total s.data.toList []
    rw [← hF, size_len] at this
    simpa using this
  have hn : F.length ≤ total (datas F) := by
    rw [← hlen]
    generalize datas F = G
    induction G with
    | nil => simp [total]
    | cons f G ih => simp only [List.length_cons, total]; omega
  have good : ∀ j (hj : j < (datas F).length), (datas F)[j] ≠ [] ∧ 47 ∉ (datas F)[j] := fun j hj =>
    flds_good s.data.toList [] (by simp) _ (by rw [← hF]; exact List.getElem_mem hj)
  intro d
  induction d with
  | zero =>
    intro i t hd hi ht hst
    have hi' : i = F.length := by omega
    subst hi'
    have tt : total ((datas F).take F.length) = total (datas F) := by rw [List.take_of_length_le (by omega)]
    rw [tt] at ht
    have hall : flds t.data.toList [] = datas F := by
      by_cases h0 : F.length = 0
      · rw [if_pos h0] at hst
        rw [hst.ends]
        have : F = [] := List.eq_nil_of_length_eq_zero h0
        subst this; rfl
      · rw [if_neg h0] at hst
        rw [hst.ends]
        have hj : F.length - 1 < (datas F).length := by omega
        have g := good _ hj
        rw [getD_in _ _ _ hj]
        unfold fpart
        rw [if_neg g.1, ← List.take_succ_eq_append_getElem hj, List.take_of_length_le (by omega)]
    have hsame : Lib.goFieldsP isSl t = F := datas_inj ((fields_are t isSl isSl_iff).trans hall)
    refine Ev.step (f := fun k => (some F).bind fun t117 => (laws_sameTexts.f k t117 F).bind fun t120 => if t120 = true then some (decide ((t.size : Int) ≤ (s.size : Int))) else some false) (fun k => ?_) ?_
    · have b1 : ¬ ((F.length : Nat) : Int) < (F.length : Int) := by omega
      have c := code_fields t (by omega)
      rw [hsame] at c
      simp only [laws_FnFields.l0, if_neg b1, c]
    · simp only [Option.bind_some]
      refine Ev.bind (f := fun _ t120 => if t120 = true then some (decide ((t.size : Int) ≤ (s.size : Int))) else some false) (same_true F (by omega)) ?_
      simp only [if_true]
      rw [decide_eq_true (by omega)]
      exact Ev.now _
  | succ d ih =>
    intro i t hd hi ht hst
    have hlt : i < F.length := by omega
    have hj : i < (datas F).length := by omega
    have g := good i hj
    have er : (rdOf ByteArray.empty F (i : Int)).data.toList = (datas F)[i] := by
      unfold rdOf
      rw [show ((i : Int)).toNat = i from rfl, getD_in _ _ _ hlt]
      simp [datas]
    generalize hq : rdOf ByteArray.empty F (i : Int) = f at er
    have fz : f.size = (datas F)[i].length := by rw [← er, size_len]
    have ts : total ((datas F).take (i + 1)) = total ((datas F).take i) + ((datas F)[i].length + 1) := by
      rw [List.take_succ_eq_append_getElem hj, total_app]; simp [total]
    have t1 := total_take (datas F) i
    have t2 := total_take (datas F) (i + 1)
    have b1 : (i : Int) < (F.length : Int) := by omega
    have b2 : (0 : Int) ≤ (i : Int) := by omega
    by_cases h0 : i = 0
    · subst h0
      rw [if_pos rfl] at hst
      have hz2 : (t ++ f).size = t.size + f.size := app_size _ _
      refine Ev.step (fun k => ?_) (ih 1 (t ++ f) (by omega) (by omega) (by rw [hz2, ts]; rw [List.take_zero] at ht ⊢; simp only [total] at ht ⊢; omega) ?_)
      · have b3 : ¬ (((0 : Nat) : Int)) > 0 := by omega
        have b4 : t.size + f.size ≤ 9223372036854775807 := by omega
        have w1 : wrap64 (((0 : Nat) : Int) + 1) = ((0 + 1 : Nat) : Int) := by rw [wrap_id _ (by omega)]; rfl
        simp only [laws_FnFields.l0, if_pos b1, if_pos b2, if_neg b3, hq, if_pos b4, w1]
      · rw [if_neg (by omega), data_app]
        have := hst.free (f := f.data.toList) (by rw [er]; exact g.2)
        rw [List.nil_append] at this
        rw [getD_in _ _ _ hj, ← er]
        exact this
    · rw [if_neg h0] at hst
      have hj1 : i - 1 < (datas F).length := by omega
      have g1 := good _ hj1
      have tp : 0 < total ((datas F).take i) := by
        have : total ((datas F).take (i - 1 + 1)) = total ((datas F).take (i - 1)) + ((datas F)[i - 1].length + 1) := by
          rw [List.take_succ_eq_append_getElem hj1, total_app]; simp [total]
        rw [show i - 1 + 1 = i by omega] at this
        omega
      have hz0 : (⟨#[47]⟩ : ByteArray).size = 1 := rfl
      have hz1 : (t ++ (⟨#[47]⟩ : ByteArray)).size = t.size + 1 := by rw [app_size, hz0]
      have hz2 : ((t ++ (⟨#[47]⟩ : ByteArray)) ++ f).size = t.size + 1 + f.size := by rw [app_size, hz1]
      refine Ev.step (fun k => ?_) (ih (i + 1) ((t ++ (⟨#[47]⟩ : ByteArray)) ++ f) (by omega) (by omega) (by rw [hz2, ts]; omega) ?_)
      · have b3 : (i : Int) > 0 := by omega
        have b4 : t.size + 1 ≤ 9223372036854775807 := by omega
        have b5 : (t ++ (⟨#[47]⟩ : ByteArray)).size + f.size ≤ 9223372036854775807 := by omega
        have w1 : wrap64 ((i : Int) + 1) = ((i + 1 : Nat) : Int) := by rw [wrap_id _ (by omega)]; rfl
        simp only [laws_FnFields.l0, if_pos b1, if_pos b2, if_pos b3, hq, if_pos b4, if_pos b5, w1]
      · rw [if_neg (by omega), data_app, data_app]
        have h1 := hst.slash
        rw [getD_in _ _ _ hj1] at h1
        unfold fpart at h1
        rw [if_neg g1.1, ← List.take_succ_eq_append_getElem hj1] at h1
        have := h1.free (f := f.data.toList) (by rw [er]; exact g.2)
        rw [List.nil_append] at this
        rw [show i + 1 - 1 = i by omega, getD_in _ _ _ hj, ← er]
        rw [show i - 1 + 1 = i by omega] at this
        exact this

theorem FnFields : laws_FnFields.Pure := by
  intro s hs
  refine Ev.rounds ?_
  by_cases h1 : (s.size : Int) > 2147483647
  · exact Ev.congr (f := fun _ => some true) (fun k => by unfold laws_FnFields.f; rw [if_pos h1]) (Ev.now _)
  by_cases h2 : (s.size : Int) > 65536
  · exact Ev.congr (f := fun _ => some true) (fun k => by unfold laws_FnFields.f; rw [if_neg h1, if_pos h2]) (Ev.now _)
  have hF : datas (Lib.goFieldsP isSl s) = flds s.data.toList [] := fields_are s isSl isSl_iff
  obtain ⟨r, hr, he⟩ := ff_spec s hs (s.size + 1) 0 0 [] (by omega) (by omega) (by omega) (by simp) (by simp) (by omega)
  have e0 : piece s 0 0 = [] := by unfold piece; simp
  rw [if_pos (by omega), e0] at he
  have hrF : r = Lib.goFieldsP isSl s := datas_inj (by rw [he, hF]; simp [datas])
  rw [hrF] at hr
  generalize hG : Lib.goFieldsP isSl s = F at hr hF
  have hlen : F.length ≤ s.size + 1 := by
    have ht := flds_total s.data.toList []
    rw [← hF, size_len] at ht
    have : F.length ≤ total (datas F) := by
      have e : (datas F).length = F.length := by simp [datas]
      rw [← e]
      generalize datas F = G
      induction G with
      | nil => simp [total]
      | cons f G ih => simp only [List.length_cons, total]; omega
    simp at ht; omega
  refine Ev.congr (f := fun k => (spec_FieldsSlash.f k s).bind fun t112 => (laws_sameTexts.f k F t112).bind fun t115 => if t115 = true then laws_FnFields.l0 k s F (⟨#[]⟩ : ByteArray) F (F.length : Int) 0 else some false) (fun k => ?_) ?_
  · have c := code_fields s (by omega)
    rw [hG] at c
    unfold laws_FnFields.f
    rw [if_neg h1, if_neg h2, c]; rfl
  refine Ev.bind (f := fun k t112 => (laws_sameTexts.f k F t112).bind fun t115 => if t115 = true then laws_FnFields.l0 k s F (⟨#[]⟩ : ByteArray) F (F.length : Int) 0 else some false) (a := F) (Ev.congr (fun k => by unfold spec_FieldsSlash.f; rfl) hr) ?_
  refine Ev.bind (f := fun k t115 => if t115 = true then laws_FnFields.l0 k s F (⟨#[]⟩ : ByteArray) F (F.length : Int) 0 else some false) (same_true F (by omega)) ?_
  simp only [if_true]
  exact ff_join s F (by omega) hF F.length 0 _ (by omega) (by omega) rfl (by rw [if_pos rfl]; exact stands_nil)

end Go.Proofs.Ytelijbnnhgmklaa.Pure
