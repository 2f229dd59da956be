/- FnSlashes, the plain law: what the functions of slashes make of a path is the same by the code and by the reference, for every text. -/
import Derived.Test.YtckfbpgjegbmlaaPFnSlashesx3
import Derived.Test.YtckfbpgjegbmlaaSlash0FnSlashes
set_option linter.unusedVariables false
namespace Go.Proofs.Ytckfbpgjegbmlaa.Pure
open Go.RowKit Go.Proofs.Ytckfbpgjegbmlaa.PFnSlashes Go.Proofs.YtckfbpgjegbmlaaW.PrintWords Go.Proofs.YtckfbpgjegbmlaaW.PrintLast Go.Proofs.Ytckfbpgjegbmlaa.Lib0 Go.Proofs.Ytckfbpgjegbmlaa Go.Proofs.Ytckfbpgjegbmlaa.Trim0 Go.Proofs.Ytckfbpgjegbmlaa.Slash0FnSlashes

theorem sp_nil (s : ByteArray) : (s.toList = ([] : List UInt8)) ↔ s.size = 0 := by
  rw [list_eq]
  constructor
  · intro h; rw [← size_len, h]; rfl
  · intro h; exact List.eq_nil_of_length_eq_zero (by rw [size_len]; exact h)

theorem sp_ahead (s : ByteArray) : spec_pathAhead.f s = some (decide (Trim0.Ahead s)) := by
  unfold spec_pathAhead.f
  by_cases h : s.size = 0
  · have : ¬ Trim0.Ahead s := fun x => by have := x.1; omega
    rw [if_pos ((sp_nil s).2 h)]; simp [this]
  · rw [if_neg (fun e => h ((sp_nil s).1 e)), if_pos (by omega)]
    congr 1
    unfold Trim0.Ahead
    by_cases q : bt s 0 = 47
    · have : 0 < s.size := by omega
      simp [q, this]
    · simp [q]
theorem sp_behind (s : ByteArray) (hs : s.size ≤ 140737488361232) : spec_pathBehind.f s = some (decide (Trim0.Behind s)) := by
  unfold spec_pathBehind.f
  by_cases h : s.size = 0
  · have : ¬ Trim0.Behind s := fun x => by have := x.1; omega
    rw [if_pos ((sp_nil s).2 h)]; simp [this]
  · rw [if_neg (fun e => h ((sp_nil s).1 e)), wrap_id _ (by omega), if_pos (by omega), if_pos (by omega)]
    congr 1
    unfold Trim0.Behind
    by_cases q : bt s ((s.size : Int) - 1) = 47
    · have : 0 < s.size := by omega
      simp [q, this]
    · simp [q]
theorem sp_addL (s : ByteArray) (hs : s.size ≤ 140737488361232) : spec_AddLeadingSlash.f s = some (addL s) := by
  unfold spec_AddLeadingSlash.f addL
  rw [sl_lit, sp_ahead]
  by_cases h : Trim0.Ahead s
  · simp [h]
  · simp only [Option.bind_some, h, decide_false, Bool.false_eq_true, if_false]
    rw [if_pos (by omega)]
theorem sp_addT (s : ByteArray) (hs : s.size ≤ 140737488361232) : spec_AddTrailingSlash.f s = some (addT s) := by
  unfold spec_AddTrailingSlash.f addT
  rw [sl_lit, sp_behind s hs]
  by_cases h : Trim0.Behind s
  · simp [h]
  · simp only [Option.bind_some, h, decide_false, Bool.false_eq_true, if_false]
    rw [if_pos (by omega)]
theorem sp_both (s : ByteArray) (hs : s.size ≤ 140737488361231) : spec_AddBothSlashes.f s = some (addT (addL s)) := by
  have z := addL_size s
  unfold spec_AddBothSlashes.f
  rw [sp_addL s (by omega)]; simp only [Option.bind_some]
  rw [sp_addT _ (by omega)]; rfl
theorem sp_cutL (s : ByteArray) : spec_TrimLeading.f s = some (cutL s) := by
  unfold spec_TrimLeading.f cutL
  rw [sp_ahead]
  by_cases h : Trim0.Ahead s
  · have := h.1
    simp only [Option.bind_some, h, decide_true, if_true]
    rw [if_pos (by omega)]
  · simp [h]
theorem sp_cutT (s : ByteArray) (hs : s.size ≤ 140737488361232) : spec_TrimTrailing.f s = some (cutT s) := by
  unfold spec_TrimTrailing.f cutT
  rw [sp_behind s hs]
  by_cases h : Trim0.Behind s
  · have := h.1
    simp only [Option.bind_some, h, decide_true, if_true]
    rw [wrap_id _ (by omega), if_pos (by omega), if_pos (by omega), show ((s.size : Int) - 1).toNat = s.size - 1 by omega]
  · simp [h]

theorem sp_l1 : ∀ (d : Nat) (s : ByteArray), s.size = d → s.size ≤ 140737488361232 → Ev (fun k => spec_ToSlashTrim.l1 k s) (ofL (stripEnd s.data.toList)) := by
  intro d
  induction d with
  | zero =>
    intro s hd hs
    have h : ¬ Trim0.Behind s := fun x => by have := x.1; omega
    have e := strip_not_behind h
    have e2 : ofL (stripEnd s.data.toList) = s := bytes_ext (by rw [ofL_data, e])
    rw [e2]
    refine Ev.step (f := fun _ => some s) (fun k => ?_) (Ev.now _)
    simp only [spec_ToSlashTrim.l1, sp_behind s hs, Option.bind_some, h, decide_false, Bool.false_eq_true, if_false]
  | succ d ih =>
    intro s hd hs
    by_cases h : Trim0.Behind s
    · have z : (s.extract 0 (s.size - 1)).size = d := by rw [ext_size]; omega
      have := ih _ z (by omega)
      rw [strip_behind h]
      refine Ev.step (fun k => ?_) this
      have b1 : (0 : Int) ≤ (s.size : Int) - 1 := by omega
      have b2 : (s.size : Int) - 1 ≤ (s.size : Int) := by omega
      have b3 : ((s.size : Int) - 1).toNat = s.size - 1 := by omega
      have w1 : wrap64 ((s.size : Int) - 1) = (s.size : Int) - 1 := wrap_id _ (by omega)
      simp only [spec_ToSlashTrim.l1, sp_behind s hs, Option.bind_some, h, decide_true, if_true, w1, if_pos b1, if_pos b2, b3]
    · have e := strip_not_behind h
      have e2 : ofL (stripEnd s.data.toList) = s := bytes_ext (by rw [ofL_data, e])
      rw [e2]
      refine Ev.step (f := fun _ => some s) (fun k => ?_) (Ev.now _)
      simp only [spec_ToSlashTrim.l1, sp_behind s hs, Option.bind_some, h, decide_false, Bool.false_eq_true, if_false]

theorem sp_l0 : ∀ (d : Nat) (s : ByteArray), s.size = d → s.size ≤ 140737488361232 → Ev (fun k => spec_ToSlashTrim.l0 k s) (ofL (trimOf s.data.toList)) := by
  intro d
  induction d with
  | zero =>
    intro s hd hs
    have h : ¬ Trim0.Ahead s := fun x => by have := x.1; omega
    rw [trim_not_ahead h]
    refine Ev.step (fun k => ?_) (sp_l1 _ s rfl hs)
    simp only [spec_ToSlashTrim.l0, sp_ahead, Option.bind_some, h, decide_false, Bool.false_eq_true, if_false]
  | succ d ih =>
    intro s hd hs
    by_cases h : Trim0.Ahead s
    · have z : (s.extract 1 s.size).size = d := by rw [ext_size]; omega
      rw [trim_ahead h]
      refine Ev.step (fun k => ?_) (ih _ z (by omega))
      have b1 : (1 : Int) ≤ (s.size : Int) := by omega
      simp only [spec_ToSlashTrim.l0, sp_ahead, Option.bind_some, h, decide_true, if_true, if_pos b1]
    · rw [trim_not_ahead h]
      refine Ev.step (fun k => ?_) (sp_l1 _ s rfl hs)
      simp only [spec_ToSlashTrim.l0, sp_ahead, Option.bind_some, h, decide_false, Bool.false_eq_true, if_false]

theorem sp_toTrim (s : ByteArray) (hs : s.size ≤ 140737488361232) : Ev (fun k => spec_ToSlashTrim.f k s) (ofL (trimOf s.data.toList)) :=
  Ev.congr (fun k => by unfold spec_ToSlashTrim.f; rfl) (sp_l0 _ s rfl hs)
theorem sp_keepLead (s : ByteArray) (hs : s.size ≤ 140737488361231) : Ev (fun k => spec_ToSlashPreserveLeading.f k s) (stSl ++ ofL (trimOf s.data.toList)) := by
  have hl := trimmed_len s.data.toList
  rw [size_len] at hl
  have hb : 1 + (ofL (trimOf s.data.toList)).size ≤ 9223372036854775807 := by rw [ofL_size]; omega
  refine Ev.congr (f := fun k => (spec_ToSlashTrim.f k s).bind fun t => if 1 + t.size ≤ 9223372036854775807 then some (stSl ++ t) else none) (fun k => ?_) (Ev.bind (f := fun _ t => if 1 + t.size ≤ 9223372036854775807 then some (stSl ++ t) else none) (sp_toTrim s (by omega)) ?_)
  · unfold spec_ToSlashPreserveLeading.f; rfl
  · simp only [if_pos hb]; exact Ev.now _

theorem FnSlashes : laws_FnSlashes.Pure := by
  intro s hs
  refine Ev.rounds ?_
  by_cases h1 : (s.size : Int) > 2147483647
  · exact Ev.congr (f := fun _ => some true) (fun k => by unfold laws_FnSlashes.f; rw [if_pos h1]) (Ev.now _)
  by_cases h2 : (s.size : Int) > 65536
  · exact Ev.congr (f := fun _ => some true) (fun k => by unfold laws_FnSlashes.f; rw [if_neg h1, if_pos h2]) (Ev.now _)
  have hz : s.size ≤ 140737488361231 := by omega
  have hz' : s.size ≤ 140737488361232 := by omega
  have sl1 : spec_ToSlashTrimLeading.f s = some (cutL s) := by unfold spec_ToSlashTrimLeading.f; rw [sp_cutL]; rfl
  have sl2 : spec_ToSlashTrimTrailing.f s = some (cutT s) := by unfold spec_ToSlashTrimTrailing.f; rw [sp_cutT s hz']; rfl
  refine Ev.congr (f := fun k => (impl_ToSlashTrim.f k s).bind fun t154 => (spec_ToSlashTrim.f k s).bind fun t155 => if t154.toList = t155.toList then (impl_ToSlashPreserveLeading.f k s).bind fun t160 => (spec_ToSlashPreserveLeading.f k s).bind fun t161 => some (t160.toList == t161.toList) else some false) (fun k => ?_) ?_
  · unfold laws_FnSlashes.f
    simp only [if_neg h1, if_neg h2, addT_f s hz', sp_addT s hz', addL_f s hz', sp_addL s hz', both_f s hz, sp_both s hz, cutL_f s, sp_cutL s, cutT_f s hz', sp_cutT s hz', slashL_f s, sl1, slashT_f s hz', sl2, Option.bind_some, if_true]
  refine Ev.bind (f := fun k t154 => (spec_ToSlashTrim.f k s).bind fun t155 => if t154.toList = t155.toList then (impl_ToSlashPreserveLeading.f k s).bind fun t160 => (spec_ToSlashPreserveLeading.f k s).bind fun t161 => some (t160.toList == t161.toList) else some false) (toTrim_f s hz') ?_
  refine Ev.bind (f := fun k t155 => if (ofL (trimOf s.data.toList)).toList = t155.toList then (impl_ToSlashPreserveLeading.f k s).bind fun t160 => (spec_ToSlashPreserveLeading.f k s).bind fun t161 => some (t160.toList == t161.toList) else some false) (sp_toTrim s hz') ?_
  simp only [if_true]
  refine Ev.bind (f := fun k t160 => (spec_ToSlashPreserveLeading.f k s).bind fun t161 => some (t160.toList == t161.toList)) (keepLead_f s hz) ?_
  refine Ev.bind (f := fun k t161 => some ((stSl ++ ofL (trimOf s.data.toList)).toList == t161.toList)) (sp_keepLead s hz) ?_
  simp only [beq_self_eq_true]
  exact Ev.now _

end Go.Proofs.Ytckfbpgjegbmlaa.Pure
