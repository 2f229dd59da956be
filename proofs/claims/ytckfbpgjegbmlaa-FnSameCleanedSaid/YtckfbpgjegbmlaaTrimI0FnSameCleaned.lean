/- What paths.ToSlashTrim answers (the printed functions of one statement). -/
import Derived.Test.YtckfbpgjegbmlaaPFnSameCleanedx1
import Derived.Test.YtckfbpgjegbmlaaTrim0
set_option linter.unusedVariables false
namespace Go.Proofs.Ytckfbpgjegbmlaa.TrimI0FnSameCleaned
open Go.RowKit Go.Proofs.Ytckfbpgjegbmlaa.PFnSameCleaned Go.Proofs.YtckfbpgjegbmlaaW.PrintWords Go.Proofs.YtckfbpgjegbmlaaW.PrintLast Go.Proofs.Ytckfbpgjegbmlaa.Lib0 Go.Proofs.Ytckfbpgjegbmlaa Go.Proofs.Ytckfbpgjegbmlaa.Trim0

theorem bind_id {α : Type} (x : Option α) : (x.bind fun t => some t) = x := by cases x <;> rfl
theorem sl_lit : (⟨#[47]⟩ : ByteArray) = stSl := rfl

theorem right_loop (x : ByteArray) (hx : x.size ≤ 140737488361232) : ∀ n : Nat, n ≤ x.size → ∃ r, Ev (fun k => paths_zzTrimRight.l0 k x stSl (n : Int)) r ∧ r.data.toList = stripEnd (x.data.toList.take n) := by
  intro n
  induction n with
  | zero =>
    intro _
    refine ⟨x.extract 0 0, Ev.step (f := fun _ => some (x.extract 0 0)) (fun k => ?_) (Ev.now _), ?_⟩
    · have b1 : ¬ (((0 : Nat) : Int)) > 0 := by omega
      have b2 : (0 : Int) ≤ ((0 : Nat) : Int) := by omega
      have b3 : (((0 : Nat) : Int)) ≤ (x.size : Int) := by omega
      simp only [paths_zzTrimRight.l0, if_neg b1, if_pos b2, if_pos b3]; rfl
    · rw [data_ext]; rfl
  | succ n ih =>
    intro hn
    obtain ⟨r, hr, he⟩ := ih (by omega)
    have hl : n < x.data.toList.length := by rw [size_len]; omega
    have hb : bt x (n : Int) = ((x.data.toList[n]).toNat : Int) := by rw [bt_list, show ((n : Int)).toNat = n from rfl, getD_in _ _ _ hl]
    have tk : x.data.toList.take (n + 1) = x.data.toList.take n ++ [x.data.toList[n]] := List.take_succ_eq_append_getElem hl
    have b1 : ((n + 1 : Nat) : Int) > 0 := by omega
    have c1 : (0 : Int) < (stSl.size : Int) := by rw [stSl_size]; omega
    have c2 : (0 : Int) ≤ 0 := by omega
    have c3 : (0 : Int) ≤ (n : Int) := by omega
    have c4 : (n : Int) < (x.size : Int) := by omega
    have c5 : ¬ (1 : Int) < (stSl.size : Int) := by rw [stSl_size]; omega
    have c6 : (0 : Int) ≤ ((n + 1 : Nat) : Int) := by omega
    have c7 : ((n + 1 : Nat) : Int) ≤ (x.size : Int) := by omega
    have c8 : ((n + 1 : Nat) : Int).toNat = n + 1 := rfl
    have w2 : wrap64 (0 + 1) = 1 := by rw [wrap_id _ (by omega)]; rfl
    by_cases h : x.data.toList[n] = 47
    · have e0 : bt stSl 0 = bt x (n : Int) := by rw [stSl_bt, hb, h]; rfl
      refine ⟨r, Ev.step (f := fun k => paths_zzTrimRight.l1 k x stSl ((n + 1 : Nat) : Int) false 0) (fun k => ?_) (Ev.step (f := fun k => paths_zzTrimRight.l1 k x stSl ((n + 1 : Nat) : Int) true 1) (fun k => ?_) (Ev.step (fun k => ?_) hr)), ?_⟩
      · simp only [paths_zzTrimRight.l0, if_pos b1]
      · have w1 : wrap64 (((n + 1 : Nat) : Int) - 1) = (n : Int) := by rw [wrap_id _ (by omega)]; omega
        simp only [paths_zzTrimRight.l1, if_pos c1, if_pos c2, w1, if_pos c3, if_pos c4, if_pos e0, w2]
      · have w1 : wrap64 (((n + 1 : Nat) : Int) - 1) = (n : Int) := by rw [wrap_id _ (by omega)]; omega
        simp only [paths_zzTrimRight.l1, if_neg c5, if_true, w1]
      · rw [he, tk, h, stripEnd_slash]
    · have e0 : ¬ bt stSl 0 = bt x (n : Int) := by rw [stSl_bt, hb]; intro q; exact h ((byte47 _).1 q.symm)
      refine ⟨x.extract 0 (n + 1), Ev.step (f := fun k => paths_zzTrimRight.l1 k x stSl ((n + 1 : Nat) : Int) false 0) (fun k => ?_) (Ev.step (f := fun k => paths_zzTrimRight.l1 k x stSl ((n + 1 : Nat) : Int) false 1) (fun k => ?_) (Ev.step (f := fun _ => some (x.extract 0 (n + 1))) (fun k => ?_) (Ev.now _))), ?_⟩
      · simp only [paths_zzTrimRight.l0, if_pos b1]
      · have w1 : wrap64 (((n + 1 : Nat) : Int) - 1) = (n : Int) := by rw [wrap_id _ (by omega)]; omega
        simp only [paths_zzTrimRight.l1, if_pos c1, if_pos c2, w1, if_pos c3, if_pos c4, if_neg e0, w2]
      · simp only [paths_zzTrimRight.l1, if_neg c5, Bool.false_eq_true, if_false, if_pos c6, if_pos c7, c8]
      · rw [data_ext, tk, stripEnd_other _ _ h, List.drop_zero]

theorem trim_f (s : ByteArray) (hs : s.size ≤ 140737488361232) : Ev (fun k => paths_zzTrim.f k s stSl) (ofL (trimOf s.data.toList)) := by
  have hz : (s.extract (lead s.data.toList) s.size).size ≤ s.size := by rw [ext_size]; omega
  obtain ⟨r, hr, he⟩ := right_loop (s.extract (lead s.data.toList) s.size) (by omega) _ (Nat.le_refl _)
  have hd : (s.extract (lead s.data.toList) s.size).data.toList = dropLead s.data.toList := by
    rw [data_ext, List.take_of_length_le (by rw [size_len]; exact Nat.le_refl _)]; rfl
  have hr2 : r = ofL (trimOf s.data.toList) := by
    apply bytes_ext
    rw [he, ofL_data, ← size_len, hd, List.take_length]; rfl
  rw [hr2] at hr
  refine Ev.congr (f := fun k => (paths_zzTrimRight.f k (s.extract (lead s.data.toList) s.size) stSl).bind fun t => some t) (fun k => ?_) (Ev.bind (f := fun _ t => some t) (Ev.congr (fun k => by unfold paths_zzTrimRight.f; rfl) hr) (Ev.now _))
  unfold paths_zzTrim.f paths_zzTrimLeft.f
  rw [if_pos (show stSl = oneSl from rfl), if_pos (by omega)]; rfl
theorem toTrim_p (s : ByteArray) (hs : s.size ≤ 140737488361232) : Ev (fun k => paths_ToSlashTrim.f k s) (ofL (trimOf s.data.toList)) := by
  refine Ev.congr (fun k => ?_) (trim_f s hs)
  unfold paths_ToSlashTrim.f filepath_ToSlash.f filepathlite_ToSlash.f
  simp only [Option.bind_some, bind_id]; rfl
end Go.Proofs.Ytckfbpgjegbmlaa.TrimI0FnSameCleaned
