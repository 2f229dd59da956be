/- FnAbsPath, the plain law: which absolute path a relative one is in a folder is the same by the code and by the reference, for all texts. -/
import Derived.Test.YtckfbpgjegbmlaaPFnAbsPathx3
import Derived.Test.YtckfbpgjegbmlaaAbsI0FnAbsPath
import Derived.Test.YtckfbpgjegbmlaaSpecC0FnAbsPath
set_option linter.unusedVariables false
namespace Go.Proofs.Ytckfbpgjegbmlaa.Pure
open Go.RowKit Go.Proofs.Ytckfbpgjegbmlaa.PFnAbsPath Go.Proofs.YtckfbpgjegbmlaaW.PrintWords Go.Proofs.YtckfbpgjegbmlaaW.PrintLast Go.Proofs.Ytckfbpgjegbmlaa.Lib0 Go.Proofs.Ytckfbpgjegbmlaa Go.Proofs.Ytckfbpgjegbmlaa.Trim0 Go.Proofs.Ytckfbpgjegbmlaa.AbsI0FnAbsPath Go.Proofs.Ytckfbpgjegbmlaa.SpecA0FnAbsPath Go.Proofs.Ytckfbpgjegbmlaa.SpecC0FnAbsPath Go.Lib.Pa

theorem nil_iff (s : ByteArray) : (s.toList = ([] : List UInt8)) ↔ s.data.toList = [] := by rw [list_eq]

theorem spec_abs (a b : ByteArray) (ha : a.size ≤ 65536) (hb : b.size ≤ 65536) : Ev (fun k => spec_AbsPathify.f k a b) (ofL (absOf a.data.toList b.data.toList (decide (Trim0.Ahead b)))) := by
  have cl : ∀ s : ByteArray, s.size ≤ 200000 → Ev (fun k => (spec_pathClean.f k s).bind fun t => some t) (ofL (cleanEls s.data.toList)) := fun s hs =>
    Ev.bind (f := fun _ t => some t) (spec_clean s hs) (Ev.now _)
  by_cases hA : Trim0.Ahead b
  · have e : absOf a.data.toList b.data.toList (decide (Trim0.Ahead b)) = cleanEls b.data.toList := by unfold absOf; simp [hA]
    rw [e]
    refine Ev.congr (fun k => ?_) (cl b (by omega))
    unfold spec_AbsPathify.f
    rw [sp_ahead]; simp [hA]
  have f0 : ∀ k, spec_AbsPathify.f k a b = (if a.toList = ([] : List UInt8) then spec_AbsPathify.j0 k a b (b.toList == ([] : List UInt8)) else spec_AbsPathify.j0 k a b false) := fun k => by
    unfold spec_AbsPathify.f; rw [sp_ahead]; simp [hA]
  have cl1 := cl b (by omega)
  have cl2 := cl a (by omega)
  by_cases h1 : a.data.toList = []
  · by_cases h2 : b.data.toList = []
    · have e : ofL (absOf a.data.toList b.data.toList (decide (Trim0.Ahead b))) = (⟨#[]⟩ : ByteArray) := by
        unfold absOf; simp [hA, h1, h2]; rfl
      rw [e]
      refine Ev.congr (f := fun k => spec_AbsPathify.j0 k a b true) (fun k => ?_) (Ev.step (f := fun _ => some (⟨#[]⟩ : ByteArray)) (fun k => ?_) (Ev.now _))
      · rw [f0, if_pos ((nil_iff a).2 h1), (nil_iff b).2 h2]; rfl
      · simp only [spec_AbsPathify.j0, if_true]
    · have e : absOf a.data.toList b.data.toList (decide (Trim0.Ahead b)) = cleanEls b.data.toList := by unfold absOf; simp [hA, h1, h2]
      rw [e]
      refine Ev.congr (f := fun k => spec_AbsPathify.j0 k a b false) (fun k => ?_) (Ev.step (fun k => ?_) cl1)
      · have q : (b.toList == ([] : List UInt8)) = false := by rw [beq_eq_false_iff_ne]; exact fun x => h2 ((nil_iff b).1 x)
        rw [f0, if_pos ((nil_iff a).2 h1), q]
      · simp only [spec_AbsPathify.j0, Bool.false_eq_true, if_false, if_pos ((nil_iff a).2 h1)]
  · have n1 : ¬ a.toList = ([] : List UInt8) := fun x => h1 ((nil_iff a).1 x)
    by_cases h2 : b.data.toList = []
    · have e : absOf a.data.toList b.data.toList (decide (Trim0.Ahead b)) = cleanEls a.data.toList := by unfold absOf; simp [hA, h1, h2]
      rw [e]
      refine Ev.congr (f := fun k => spec_AbsPathify.j0 k a b false) (fun k => ?_) (Ev.step (fun k => ?_) cl2)
      · rw [f0, if_neg n1]
      · simp only [spec_AbsPathify.j0, Bool.false_eq_true, if_false, if_neg n1, if_pos ((nil_iff b).2 h2)]
    · have n2 : ¬ b.toList = ([] : List UInt8) := fun x => h2 ((nil_iff b).1 x)
      have z0 : (⟨#[47]⟩ : ByteArray).size = 1 := rfl
      have z1 : (a ++ (⟨#[47]⟩ : ByteArray)).size = a.size + 1 := by rw [app_size, z0]
      have z2 : ((a ++ (⟨#[47]⟩ : ByteArray)) ++ b).size = a.size + 1 + b.size := by rw [app_size, z1]
      have c3 := cl ((a ++ (⟨#[47]⟩ : ByteArray)) ++ b) (by omega)
      have e : absOf a.data.toList b.data.toList (decide (Trim0.Ahead b)) = cleanEls ((a ++ (⟨#[47]⟩ : ByteArray)) ++ b).data.toList := by
        unfold absOf; rw [data_app, data_app]; simp [hA, h1, h2]
      rw [e]
      have b1 : a.size + 1 ≤ 9223372036854775807 := by omega
      have b2 : (a ++ (⟨#[47]⟩ : ByteArray)).size + b.size ≤ 9223372036854775807 := by omega
      refine Ev.congr (f := fun k => spec_AbsPathify.j0 k a b false) (fun k => ?_) (Ev.step (fun k => ?_) c3)
      · rw [f0, if_neg n1]
      · simp only [spec_AbsPathify.j0, Bool.false_eq_true, if_false, if_neg n1, if_neg n2, if_pos b1, if_pos b2]

theorem FnAbsPath : laws_FnAbsPath.Pure := by
  intro a b ha hb
  refine Ev.rounds ?_
  have j0t : Ev (fun k => laws_FnAbsPath.j0 k a b true) true := Ev.step (f := fun _ => some true) (fun k => by simp only [laws_FnAbsPath.j0, if_true]) (Ev.now _)
  by_cases h1 : (a.size : Int) > 2147483647
  · exact Ev.congr (fun k => by unfold laws_FnAbsPath.f; rw [if_pos h1]) j0t
  by_cases h2 : (b.size : Int) > 2147483647
  · have d2 : decide ((b.size : Int) > 2147483647) = true := decide_eq_true h2
    exact Ev.congr (fun k => by unfold laws_FnAbsPath.f; rw [if_neg h1, d2]) j0t
  have w1 : wrap64 ((a.size : Int) + (b.size : Int)) = (a.size : Int) + (b.size : Int) := wrap_id _ (by omega)
  refine Ev.congr (f := fun k => laws_FnAbsPath.j0 k a b false) (fun k => by unfold laws_FnAbsPath.f; rw [if_neg h1, decide_eq_false h2]) ?_
  by_cases h3 : (a.size : Int) + (b.size : Int) > 65536
  · refine Ev.step (f := fun _ => some true) (fun k => ?_) (Ev.now _)
    simp only [laws_FnAbsPath.j0, Bool.false_eq_true, if_false, w1, if_pos h3]
  have c := abs_f a b (by omega) (by omega)
  refine Ev.step (f := fun k => (spec_AbsPathify.f k a b).bind fun t139 => some ((ofL (absOf a.data.toList b.data.toList (decide (Trim0.Ahead b)))).toList == t139.toList)) (fun k => ?_) ?_
  · simp only [laws_FnAbsPath.j0, Bool.false_eq_true, if_false, w1, if_neg h3, c, Option.bind_some]
  refine Ev.bind (f := fun k t139 => some ((ofL (absOf a.data.toList b.data.toList (decide (Trim0.Ahead b)))).toList == t139.toList)) (spec_abs a b (by omega) (by omega)) ?_
  simp only [beq_self_eq_true]
  exact Ev.now _
end Go.Proofs.Ytckfbpgjegbmlaa.Pure
