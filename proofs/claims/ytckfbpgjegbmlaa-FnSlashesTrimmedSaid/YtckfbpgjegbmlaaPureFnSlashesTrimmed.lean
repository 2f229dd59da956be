/- FnSlashesTrimmed, the plain law: trimming takes away what adding added, for every text without slashes at its ends. -/
import Derived.Test.YtckfbpgjegbmlaaPFnSlashesTrimmedx2
import Derived.Test.YtckfbpgjegbmlaaSlash0FnSlashesTrimmed
set_option linter.unusedVariables false
namespace Go.Proofs.Ytckfbpgjegbmlaa.Pure
open Go.RowKit Go.Proofs.Ytckfbpgjegbmlaa.PFnSlashesTrimmed Go.Proofs.YtckfbpgjegbmlaaW.PrintWords Go.Proofs.YtckfbpgjegbmlaaW.PrintLast Go.Proofs.Ytckfbpgjegbmlaa.Lib0 Go.Proofs.Ytckfbpgjegbmlaa Go.Proofs.Ytckfbpgjegbmlaa.Trim0 Go.Proofs.Ytckfbpgjegbmlaa.Slash0FnSlashesTrimmed

theorem st_ahead (s : ByteArray) : Trim0.Ahead (stSl ++ s) := by
  refine ⟨by rw [app_size, stSl_size]; omega, ?_⟩
  rw [bt_app_left _ _ _ (by omega) (by rw [stSl_size]; omega)]; exact stSl_bt
theorem st_behind (s : ByteArray) : Trim0.Behind (s ++ stSl) := by
  refine ⟨by rw [app_size, stSl_size]; omega, ?_⟩
  rw [bt_app_right _ _ _ (by rw [app_size, stSl_size]; omega), app_size, stSl_size]
  rw [show (((s.size + 1 : Nat) : Int) - 1 - (s.size : Int)) = 0 by omega]; exact stSl_bt
theorem st_cutL (s : ByteArray) : cutL (stSl ++ s) = s := by
  unfold cutL
  rw [if_pos (st_ahead s)]
  apply bytes_ext
  rw [data_ext, List.take_of_length_le (by rw [size_len]; exact Nat.le_refl _), data_app, stSl_list]; rfl
theorem st_cutT (s : ByteArray) : cutT (s ++ stSl) = s := by
  unfold cutT
  rw [if_pos (st_behind s)]
  apply bytes_ext
  rw [data_ext, app_size, stSl_size, data_app, List.drop_zero, show s.size + 1 - 1 = s.data.toList.length by rw [size_len]; omega]
  simp
theorem st_trim (s : ByteArray) (h0 : 0 < s.size) (ha : ¬ Trim0.Ahead s) (hb : ¬ Trim0.Behind s) : trimOf ((stSl ++ s) ++ stSl).data.toList = s.data.toList := by
  obtain ⟨c, l, e, hc, _⟩ := first_of s h0
  have hne : c ≠ 47 := fun q => ha ⟨h0, hc.2 q⟩
  have := strip_not_behind hb
  rw [data_app, data_app, stSl_list]
  unfold trimOf
  show stripEnd (dropLead (47 :: (s.data.toList ++ [47]))) = _
  rw [dropLead_slash, e, List.cons_append, dropLead_other _ _ hne, ← List.cons_append, ← e, stripEnd_slash, this]

theorem st_j0 (s : ByteArray) (h0 : 0 < s.size) (hz : s.size ≤ 65536) (ha : ¬ Trim0.Ahead s) (hb : ¬ Trim0.Behind s) : Ev (fun k => laws_FnSlashesTrimmed.j0 k s false) true := by
  have aL : addL s = stSl ++ s := by unfold addL; rw [if_neg ha]
  have aT : addT s = s ++ stSl := by unfold addT; rw [if_neg hb]
  have zL : (stSl ++ s).size = 1 + s.size := by rw [app_size, stSl_size]
  have zT : (s ++ stSl).size = s.size + 1 := by rw [app_size, stSl_size]
  have nb : ¬ Trim0.Behind (stSl ++ s) := by
    intro x
    have := x.2
    rw [zL, bt_app_right _ _ _ (by rw [stSl_size]; omega), stSl_size] at this
    apply hb
    refine ⟨h0, ?_⟩
    rw [show (((1 + s.size : Nat) : Int) - 1 - ((1 : Nat) : Int)) = (s.size : Int) - 1 by omega] at this
    exact this
  have aB : addT (addL s) = (stSl ++ s) ++ stSl := by rw [aL]; unfold addT; rw [if_neg nb]
  have zB : ((stSl ++ s) ++ stSl).size = 1 + s.size + 1 := by rw [app_size, zL, stSl_size]
  have f1 := addL_f s (by omega)
  have f2 := cutL_f (stSl ++ s)
  have f3 := addT_f s (by omega)
  have f4 := cutT_f (s ++ stSl) (by omega)
  have f5 := both_f s (by omega)
  have f6 := toTrim_f ((stSl ++ s) ++ stSl) (by omega)
  have f7 := keepLead_f ((stSl ++ s) ++ stSl) (by omega)
  have f8 := slashL_f (stSl ++ s)
  have f9 := slashT_f (s ++ stSl) (by omega)
  have tr := st_trim s h0 ha hb
  have eb : ofL s.data.toList = s := bytes_ext (by rw [ofL_data])
  rw [aL] at f1
  rw [st_cutL] at f2 f8
  rw [aT] at f3
  rw [st_cutT] at f4 f9
  rw [aB] at f5
  rw [tr, eb] at f6 f7
  have b1 : 1 + s.size ≤ 9223372036854775807 := by omega
  have b2 : s.size + 1 ≤ 9223372036854775807 := by omega
  refine Ev.step (f := fun k => (impl_ToSlashTrim.f k ((stSl ++ s) ++ stSl)).bind fun t138 => if t138.toList = s.toList then (impl_ToSlashPreserveLeading.f k ((stSl ++ s) ++ stSl)).bind fun t139 => if t139.toList = (stSl ++ s).toList then some true else some false else some false) (fun k => ?_) ?_
  · simp only [laws_FnSlashesTrimmed.j0, Bool.false_eq_true, if_false, sl_lit, f1, f2, f3, f4, f5, f8, f9, Option.bind_some, if_true, if_pos b1, if_pos b2, beq_self_eq_true]
  refine Ev.bind (f := fun k t138 => if t138.toList = s.toList then (impl_ToSlashPreserveLeading.f k ((stSl ++ s) ++ stSl)).bind fun t139 => if t139.toList = (stSl ++ s).toList then some true else some false else some false) f6 ?_
  simp only [if_true]
  refine Ev.bind (f := fun k t139 => if t139.toList = (stSl ++ s).toList then some true else some false) f7 ?_
  simp only [if_true]
  exact Ev.now _

theorem FnSlashesTrimmed : laws_FnSlashesTrimmed.Pure := by
  intro s hs
  refine Ev.rounds ?_
  have j0t : Ev (fun k => laws_FnSlashesTrimmed.j0 k s true) true := Ev.step (f := fun _ => some true) (fun k => by simp only [laws_FnSlashesTrimmed.j0, if_true]) (Ev.now _)
  by_cases h1 : (s.size : Int) > 2147483647
  · exact Ev.congr (f := fun _ => some true) (fun k => by unfold laws_FnSlashesTrimmed.f; rw [if_pos h1]) (Ev.now _)
  by_cases h2 : (s.size : Int) > 65536
  · exact Ev.congr (fun k => by unfold laws_FnSlashesTrimmed.f; rw [if_neg h1, if_pos h2]) j0t
  by_cases h3 : s.toList = ([] : List UInt8)
  · exact Ev.congr (fun k => by unfold laws_FnSlashesTrimmed.f; rw [if_neg h1, if_neg h2, if_pos h3]) j0t
  have h0 : 0 < s.size := by
    rcases Nat.eq_zero_or_pos s.size with z | z
    · exfalso; apply h3
      rw [list_eq]
      exact List.eq_nil_of_length_eq_zero (by rw [size_len]; exact z)
    · exact z
  by_cases h4 : bt s 0 = 47
  · exact Ev.congr (fun k => by unfold laws_FnSlashesTrimmed.f; rw [if_neg h1, if_neg h2, if_neg h3, if_pos (by omega), if_pos h4]) j0t
  have w1 : wrap64 ((s.size : Int) - 1) = (s.size : Int) - 1 := wrap_id _ (by omega)
  have b1 : 0 < (s.size : Int) := by omega
  have b2 : 0 ≤ (s.size : Int) - 1 := by omega
  have b3 : (s.size : Int) - 1 < (s.size : Int) := by omega
  by_cases h5 : bt s ((s.size : Int) - 1) = 47
  · refine Ev.congr (fun k => ?_) j0t
    have q : (bt s ((s.size : Int) - 1) == 47) = true := by simpa using h5
    unfold laws_FnSlashesTrimmed.f
    simp only [if_neg h1, if_neg h2, if_neg h3, if_pos b1, if_neg h4, w1, if_pos b2, if_pos b3, q]
  · refine Ev.congr (fun k => ?_) (st_j0 s h0 (by omega) (fun x => h4 x.2) (fun x => h5 x.2))
    have q : (bt s ((s.size : Int) - 1) == 47) = false := by simpa using h5
    unfold laws_FnSlashesTrimmed.f
    simp only [if_neg h1, if_neg h2, if_neg h3, if_pos b1, if_neg h4, w1, if_pos b2, if_pos b3, q]

end Go.Proofs.Ytckfbpgjegbmlaa.Pure
