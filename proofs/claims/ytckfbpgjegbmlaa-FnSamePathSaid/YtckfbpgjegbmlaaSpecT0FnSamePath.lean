/- What the reference's ToSlashTrim answers (the printed functions of one statement). -/
import Derived.Test.YtckfbpgjegbmlaaPFnSamePathx2
import Derived.Test.YtckfbpgjegbmlaaTrim0
import Derived.Test.YtckfbpgjegbmlaaSpecA0FnSamePath
set_option linter.unusedVariables false
namespace Go.Proofs.Ytckfbpgjegbmlaa.SpecT0FnSamePath
open Go.RowKit Go.Proofs.Ytckfbpgjegbmlaa.PFnSamePath Go.Proofs.YtckfbpgjegbmlaaW.PrintWords Go.Proofs.YtckfbpgjegbmlaaW.PrintLast Go.Proofs.Ytckfbpgjegbmlaa.Lib0 Go.Proofs.Ytckfbpgjegbmlaa Go.Proofs.Ytckfbpgjegbmlaa.Trim0 Go.Proofs.Ytckfbpgjegbmlaa.SpecA0FnSamePath

theorem sp_behind (s : ByteArray) (hs : s.size ≤ 140737488361232) : spec_pathBehind.f s = some (decide (Trim0.Behind s)) := by
  unfold spec_pathBehind.f
  by_cases h : s.size = 0
  · have : ¬ Trim0.Behind s := fun x => by have := x.1; omega
    rw [if_pos ((sp_nil s).2 h)]; simp [this]
  · rw [if_neg (fun e => h ((sp_nil s).1 e)), wrap_id _ (by omega), if_pos (by omega), if_pos (by omega)]
    congr 1
    unfold Trim0.Behind
    by_cases q : bt s ((s.size : Int) - 1) = 47
    · have : 0 < s.size := by omega
      simp [q, this]
    · simp [q]
theorem sp_l1 : ∀ (d : Nat) (s : ByteArray), s.size = d → s.size ≤ 140737488361232 → Ev (fun k => spec_ToSlashTrim.l1 k s) (ofL (stripEnd s.data.toList)) := by
  intro d
  induction d with
  | zero =>
    intro s hd hs
    have h : ¬ Trim0.Behind s := fun x => by have := x.1; omega
    have e := strip_not_behind h
    have e2 : ofL (stripEnd s.data.toList) = s := bytes_ext (by rw [ofL_data, e])
    rw [e2]
    refine Ev.step (f := fun _ => some s) (fun k => ?_) (Ev.now _)
    simp only [spec_ToSlashTrim.l1, sp_behind s hs, Option.bind_some, h, decide_false, Bool.false_eq_true, if_false]
  | succ d ih =>
    intro s hd hs
    by_cases h : Trim0.Behind s
    · have z : (s.extract 0 (s.size - 1)).size = d := by rw [ext_size]; omega
      have := ih _ z (by omega)
      rw [strip_behind h]
      refine Ev.step (fun k => ?_) this
      have b1 : (0 : Int) ≤ (s.size : Int) - 1 := by omega
      have b2 : (s.size : Int) - 1 ≤ (s.size : Int) := by omega
      have b3 : ((s.size : Int) - 1).toNat = s.size - 1 := by omega
      have w1 : wrap64 ((s.size : Int) - 1) = (s.size : Int) - 1 := wrap_id _ (by omega)
      simp only [spec_ToSlashTrim.l1, sp_behind s hs, Option.bind_some, h, decide_true, if_true, w1, if_pos b1, if_pos b2, b3]
    · have e := strip_not_behind h
      have e2 : ofL (stripEnd s.data.toList) = s := bytes_ext (by rw [ofL_data, e])
      rw [e2]
      refine Ev.step (f := fun _ => some s) (fun k => ?_) (Ev.now _)
      simp only [spec_ToSlashTrim.l1, sp_behind s hs, Option.bind_some, h, decide_false, Bool.false_eq_true, if_false]

theorem sp_l0 : ∀ (d : Nat) (s : ByteArray), s.size = d → s.size ≤ 140737488361232 → Ev (fun k => spec_ToSlashTrim.l0 k s) (ofL (trimOf s.data.toList)) := by
  intro d
  induction d with
  | zero =>
    intro s hd hs
    have h : ¬ Trim0.Ahead s := fun x => by have := x.1; omega
    rw [trim_not_ahead h]
    refine Ev.step (fun k => ?_) (sp_l1 _ s rfl hs)
    simp only [spec_ToSlashTrim.l0, sp_ahead, Option.bind_some, h, decide_false, Bool.false_eq_true, if_false]
  | succ d ih =>
    intro s hd hs
    by_cases h : Trim0.Ahead s
    · have z : (s.extract 1 s.size).size = d := by rw [ext_size]; omega
      rw [trim_ahead h]
      refine Ev.step (fun k => ?_) (ih _ z (by omega))
      have b1 : (1 : Int) ≤ (s.size : Int) := by omega
      simp only [spec_ToSlashTrim.l0, sp_ahead, Option.bind_some, h, decide_true, if_true, if_pos b1]
    · rw [trim_not_ahead h]
      refine Ev.step (fun k => ?_) (sp_l1 _ s rfl hs)
      simp only [spec_ToSlashTrim.l0, sp_ahead, Option.bind_some, h, decide_false, Bool.false_eq_true, if_false]

theorem sp_toTrim (s : ByteArray) (hs : s.size ≤ 140737488361232) : Ev (fun k => spec_ToSlashTrim.f k s) (ofL (trimOf s.data.toList)) :=
  Ev.congr (fun k => by unfold spec_ToSlashTrim.f; rfl) (sp_l0 _ s rfl hs)
end Go.Proofs.Ytckfbpgjegbmlaa.SpecT0FnSamePath
