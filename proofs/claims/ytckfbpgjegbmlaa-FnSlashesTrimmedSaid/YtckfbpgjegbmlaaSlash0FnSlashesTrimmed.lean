/- What the functions of slashes answer (the printed functions of one statement). -/
import Derived.Test.YtckfbpgjegbmlaaPFnSlashesTrimmedx2
import Derived.Test.YtckfbpgjegbmlaaTrim0
set_option linter.unusedVariables false
namespace Go.Proofs.Ytckfbpgjegbmlaa.Slash0FnSlashesTrimmed
open Go.RowKit Go.Proofs.Ytckfbpgjegbmlaa.PFnSlashesTrimmed Go.Proofs.YtckfbpgjegbmlaaW.PrintWords Go.Proofs.YtckfbpgjegbmlaaW.PrintLast Go.Proofs.Ytckfbpgjegbmlaa.Lib0 Go.Proofs.Ytckfbpgjegbmlaa Go.Proofs.Ytckfbpgjegbmlaa.Trim0

theorem bind_id {α : Type} (x : Option α) : (x.bind fun t => some t) = x := by cases x <;> rfl
theorem sl_lit : (⟨#[47]⟩ : ByteArray) = stSl := rfl

theorem one_eq (s : ByteArray) (i : Nat) (h : i < s.size) : ((s.extract i (i + 1)).toList == stSl.toList) = decide (bt s i = 47) := by
  have h' : i < s.data.toList.length := by rw [size_len]; exact h
  have e : (s.extract i (i + 1)).toList = [s.data.toList[i]] := by
    rw [list_eq, data_ext]
    rw [List.take_succ_eq_append_getElem h', List.drop_append_of_le_length (by simp; omega)]
    simp
  rw [e, list_eq, stSl_list, bt_list]
  have g : s.data.toList.getD (i : Int).toNat 0 = s.data.toList[i] := getD_in _ _ _ h'
  rw [g]
  by_cases c : s.data.toList[i] = 47
  · rw [c]; rfl
  · have h2 := mt (byte47 s.data.toList[i]).1 c
    rw [decide_eq_false h2]
    simpa using c

theorem hp_f (s : ByteArray) : stringslite_HasPrefix.f s stSl = some (decide (Ahead s)) := by
  unfold stringslite_HasPrefix.f
  rw [stSl_size]
  by_cases h : (s.size : Int) ≥ ((1 : Nat) : Int)
  · rw [if_pos h, if_pos (by omega), if_pos (by omega)]
    have e := one_eq s 0 (by omega)
    rw [show (((1 : Nat) : Int)).toNat = 0 + 1 from rfl, e]
    congr 1
    apply decide_eq_decide.2
    unfold Ahead
    exact ⟨fun x => ⟨by omega, x⟩, fun x => x.2⟩
  · rw [if_neg h]
    congr 1
    have : ¬ Ahead s := fun x => by have := x.1; omega
    simp [this]
theorem hs_f (s : ByteArray) (hs : s.size ≤ 140737488361232) : stringslite_HasSuffix.f s stSl = some (decide (Behind s)) := by
  unfold stringslite_HasSuffix.f
  rw [stSl_size]
  by_cases h : (s.size : Int) ≥ ((1 : Nat) : Int)
  · rw [if_pos h, wrap_id _ (by omega), if_pos (by omega), if_pos (by omega)]
    have e := one_eq s (s.size - 1) (by omega)
    rw [show ((s.size : Int) - ((1 : Nat) : Int)).toNat = s.size - 1 by omega]
    rw [show s.size - 1 + 1 = s.size by omega] at e
    rw [e]
    congr 1
    apply decide_eq_decide.2
    unfold Behind
    rw [show ((s.size - 1 : Nat) : Int) = (s.size : Int) - 1 by omega]
    exact ⟨fun x => ⟨by omega, x⟩, fun x => x.2⟩
  · rw [if_neg h]
    congr 1
    have : ¬ Behind s := fun x => by have := x.1; omega
    simp [this]

theorem addL_p (s : ByteArray) (hs : s.size ≤ 140737488361232) : paths_AddLeadingSlash.f s = some (addL s) := by
  unfold paths_AddLeadingSlash.f strings_HasPrefix.f addL
  rw [sl_lit, hp_f]
  by_cases h : Ahead s
  · simp [h]
  · simp only [Option.bind_some, h, decide_false, Bool.false_eq_true, if_false]
    rw [if_pos (by omega)]
theorem addL_f (s : ByteArray) (hs : s.size ≤ 140737488361232) : impl_AddLeadingSlash.f s = some (addL s) := by
  unfold impl_AddLeadingSlash.f; rw [addL_p s hs]; rfl
theorem addT_p (s : ByteArray) (hs : s.size ≤ 140737488361232) : paths_AddTrailingSlash.f s = some (addT s) := by
  unfold paths_AddTrailingSlash.f strings_HasSuffix.f addT
  rw [sl_lit, hs_f s hs]
  by_cases h : Behind s
  · simp [h]
  · simp only [Option.bind_some, h, decide_false, Bool.false_eq_true, if_false]
    rw [if_pos (by omega)]
theorem addT_f (s : ByteArray) (hs : s.size ≤ 140737488361232) : impl_AddTrailingSlash.f s = some (addT s) := by
  unfold impl_AddTrailingSlash.f; rw [addT_p s hs]; rfl
theorem both_f (s : ByteArray) (hs : s.size ≤ 140737488361231) : impl_AddBothSlashes.f s = some (addT (addL s)) := by
  have z := addL_size s
  unfold impl_AddBothSlashes.f paths_AddLeadingAndTrailingSlash.f
  rw [addL_p s (by omega)]; simp only [Option.bind_some]
  rw [addT_p _ (by omega)]; rfl
theorem cutL_p (s : ByteArray) : paths_TrimLeading.f s = some (cutL s) := by
  unfold paths_TrimLeading.f strings_TrimPrefix.f stringslite_TrimPrefix.f cutL
  rw [sl_lit, hp_f, stSl_size]
  by_cases h : Ahead s
  · have := h.1
    simp only [Option.bind_some, h, decide_true, if_true]
    rw [if_pos (by omega), if_pos (by omega)]; rfl
  · simp [h]
theorem cutL_f (s : ByteArray) : impl_TrimLeading.f s = some (cutL s) := by unfold impl_TrimLeading.f; rw [cutL_p]; rfl
theorem cutT_p (s : ByteArray) (hs : s.size ≤ 140737488361232) : paths_TrimTrailing.f s = some (cutT s) := by
  unfold paths_TrimTrailing.f strings_TrimSuffix.f stringslite_TrimSuffix.f cutT
  rw [sl_lit, hs_f s hs, stSl_size]
  by_cases h : Behind s
  · have := h.1
    simp only [Option.bind_some, h, decide_true, if_true]
    rw [wrap_id _ (by omega), if_pos (by omega), if_pos (by omega), show ((s.size : Int) - ((1 : Nat) : Int)).toNat = s.size - 1 by omega]
    rfl
  · simp [h]
theorem cutT_f (s : ByteArray) (hs : s.size ≤ 140737488361232) : impl_TrimTrailing.f s = some (cutT s) := by unfold impl_TrimTrailing.f; rw [cutT_p s hs]; rfl
theorem slashL_f (s : ByteArray) : impl_ToSlashTrimLeading.f s = some (cutL s) := by
  unfold impl_ToSlashTrimLeading.f paths_ToSlashTrimLeading.f filepath_ToSlash.f filepathlite_ToSlash.f
  simp only [Option.bind_some]; rw [cutL_p]; rfl
theorem slashT_f (s : ByteArray) (hs : s.size ≤ 140737488361232) : impl_ToSlashTrimTrailing.f s = some (cutT s) := by
  unfold impl_ToSlashTrimTrailing.f paths_ToSlashTrimTrailing.f filepath_ToSlash.f filepathlite_ToSlash.f
  simp only [Option.bind_some]; rw [cutT_p s hs]; rfl

theorem right_loop (x : ByteArray) (hx : x.size ≤ 140737488361232) : ∀ n : Nat, n ≤ x.size → ∃ r, Ev (fun k => paths_zzTrimRight.l0 k x stSl (n : Int)) r ∧ r.data.toList = stripEnd (x.data.toList.take n) := by
  intro n
  induction n with
  | zero =>
    intro _
    refine ⟨x.extract 0 0, Ev.step (f := fun _ => some (x.extract 0 0)) (fun k => ?_) (Ev.now _), ?_⟩
    · have b1 : ¬ (((0 : Nat) : Int)) > 0 := by omega
      have b2 : (0 : Int) ≤ ((0 : Nat) : Int) := by omega
      have b3 : (((0 : Nat) : Int)) ≤ (x.size : Int) := by omega
      simp only [paths_zzTrimRight.l0, if_neg b1, if_pos b2, if_pos b3]; rfl
    · rw [data_ext]; rfl
  | succ n ih =>
    intro hn
    obtain ⟨r, hr, he⟩ := ih (by omega)
    have hl : n < x.data.toList.length := by rw [size_len]; omega
    have hb : bt x (n : Int) = ((x.data.toList[n]).toNat : Int) := by rw [bt_list, show ((n : Int)).toNat = n from rfl, getD_in _ _ _ hl]
    have tk : x.data.toList.take (n + 1) = x.data.toList.take n ++ [x.data.toList[n]] := List.take_succ_eq_append_getElem hl
    have b1 : ((n + 1 : Nat) : Int) > 0 := by omega
    have c1 : (0 : Int) < (stSl.size : Int) := by rw [stSl_size]; omega
    have c2 : (0 : Int) ≤ 0 := by omega
    have c3 : (0 : Int) ≤ (n : Int) := by omega
    have c4 : (n : Int) < (x.size : Int) := by omega
    have c5 : ¬ (1 : Int) < (stSl.size : Int) := by rw [stSl_size]; omega
    have c6 : (0 : Int) ≤ ((n + 1 : Nat) : Int) := by omega
    have c7 : ((n + 1 : Nat) : Int) ≤ (x.size : Int) := by omega
    have c8 : ((n + 1 : Nat) : Int).toNat = n + 1 := rfl
    have w2 : wrap64 (0 + 1) = 1 := by rw [wrap_id _ (by omega)]; rfl
    by_cases h : x.data.toList[n] = 47
    · have e0 : bt stSl 0 = bt x (n : Int) := by rw [stSl_bt, hb, h]; rfl
      refine ⟨r, Ev.step (f := fun k => paths_zzTrimRight.l1 k x stSl ((n + 1 : Nat) : Int) false 0) (fun k => ?_) (Ev.step (f := fun k => paths_zzTrimRight.l1 k x stSl ((n + 1 : Nat) : Int) true 1) (fun k => ?_) (Ev.step (fun k => ?_) hr)), ?_⟩
      · simp only [paths_zzTrimRight.l0, if_pos b1]
      · have w1 : wrap64 (((n + 1 : Nat) : Int) - 1) = (n : Int) := by rw [wrap_id _ (by omega)]; omega
        simp only [paths_zzTrimRight.l1, if_pos c1, if_pos c2, w1, if_pos c3, if_pos c4, if_pos e0, w2]
      · have w1 : wrap64 (((n + 1 : Nat) : Int) - 1) = (n : Int) := by rw [wrap_id _ (by omega)]; omega
        simp only [paths_zzTrimRight.l1, if_neg c5, if_true, w1]
      · rw [he, tk, h, stripEnd_slash]
    · have e0 : ¬ bt stSl 0 = bt x (n : Int) := by rw [stSl_bt, hb]; intro q; exact h ((byte47 _).1 q.symm)
      refine ⟨x.extract 0 (n + 1), Ev.step (f := fun k => paths_zzTrimRight.l1 k x stSl ((n + 1 : Nat) : Int) false 0) (fun k => ?_) (Ev.step (f := fun k => paths_zzTrimRight.l1 k x stSl ((n + 1 : Nat) : Int) false 1) (fun k => ?_) (Ev.step (f := fun _ => some (x.extract 0 (n + 1))) (fun k => ?_) (Ev.now _))), ?_⟩
      · simp only [paths_zzTrimRight.l0, if_pos b1]
      · have w1 : wrap64 (((n + 1 : Nat) : Int) - 1) = (n : Int) := by rw [wrap_id _ (by omega)]; omega
        simp only [paths_zzTrimRight.l1, if_pos c1, if_pos c2, w1, if_pos c3, if_pos c4, if_neg e0, w2]
      · simp only [paths_zzTrimRight.l1, if_neg c5, Bool.false_eq_true, if_false, if_pos c6, if_pos c7, c8]
      · rw [data_ext, tk, stripEnd_other _ _ h, List.drop_zero]

theorem trim_f (s : ByteArray) (hs : s.size ≤ 140737488361232) : Ev (fun k => paths_zzTrim.f k s stSl) (ofL (trimOf s.data.toList)) := by
  have hz : (s.extract (lead s.data.toList) s.size).size ≤ s.size := by rw [ext_size]; omega
  obtain ⟨r, hr, he⟩ := right_loop (s.extract (lead s.data.toList) s.size) (by omega) _ (Nat.le_refl _)
  have hd : (s.extract (lead s.data.toList) s.size).data.toList = dropLead s.data.toList := by
    rw [data_ext, List.take_of_length_le (by rw [size_len]; exact Nat.le_refl _)]; rfl
  have hr2 : r = ofL (trimOf s.data.toList) := by
    apply bytes_ext
    rw [he, ofL_data, ← size_len, hd, List.take_length]; rfl
  rw [hr2] at hr
  refine Ev.congr (f := fun k => (paths_zzTrimRight.f k (s.extract (lead s.data.toList) s.size) stSl).bind fun t => some t) (fun k => ?_) (Ev.bind (f := fun _ t => some t) (Ev.congr (fun k => by unfold paths_zzTrimRight.f; rfl) hr) (Ev.now _))
  unfold paths_zzTrim.f paths_zzTrimLeft.f
  rw [if_pos (show stSl = oneSl from rfl), if_pos (by omega)]; rfl
theorem toTrim_f (s : ByteArray) (hs : s.size ≤ 140737488361232) : Ev (fun k => impl_ToSlashTrim.f k s) (ofL (trimOf s.data.toList)) := by
  refine Ev.congr (fun k => ?_) (trim_f s hs)
  unfold impl_ToSlashTrim.f paths_ToSlashTrim.f filepath_ToSlash.f filepathlite_ToSlash.f
  simp only [Option.bind_some, bind_id]; rfl
theorem keepLead_f (s : ByteArray) (hs : s.size ≤ 140737488361231) : Ev (fun k => impl_ToSlashPreserveLeading.f k s) (stSl ++ ofL (trimOf s.data.toList)) := by
  have hl := trimmed_len s.data.toList
  rw [size_len] at hl
  have hb : 1 + (ofL (trimOf s.data.toList)).size ≤ 9223372036854775807 := by rw [ofL_size]; omega
  refine Ev.congr (f := fun k => (paths_zzTrim.f k s stSl).bind fun t => if 1 + t.size ≤ 9223372036854775807 then some (stSl ++ t) else none) (fun k => ?_) (Ev.bind (f := fun _ t => if 1 + t.size ≤ 9223372036854775807 then some (stSl ++ t) else none) (trim_f s (by omega)) ?_)
  · unfold impl_ToSlashPreserveLeading.f paths_ToSlashPreserveLeading.f filepath_ToSlash.f filepathlite_ToSlash.f
    simp only [Option.bind_some, bind_id]; rfl
  · simp only [if_pos hb]; exact Ev.now _
end Go.Proofs.Ytckfbpgjegbmlaa.Slash0FnSlashesTrimmed
