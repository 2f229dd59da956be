/- FnSamePath, the plain law: two paths are the same file's by the code just where they are so by the reference, whichever is asked first, and each with itself; for all texts. -/
import Derived.Test.YtckfbpgjegbmlaaPFnSamePathx3
import Derived.Test.YtckfbpgjegbmlaaSameI0FnSamePath
import Derived.Test.YtckfbpgjegbmlaaSpecC0FnSamePath
import Derived.Test.YtckfbpgjegbmlaaSpecT0FnSamePath
set_option linter.unusedVariables false
namespace Go.Proofs.Ytckfbpgjegbmlaa.Pure
open Go.RowKit Go.Proofs.Ytckfbpgjegbmlaa.PFnSamePath Go.Proofs.YtckfbpgjegbmlaaW.PrintWords Go.Proofs.YtckfbpgjegbmlaaW.PrintLast Go.Proofs.Ytckfbpgjegbmlaa.Lib0 Go.Proofs.Ytckfbpgjegbmlaa Go.Proofs.Ytckfbpgjegbmlaa.Trim0 Go.Proofs.Ytckfbpgjegbmlaa.SameI0FnSamePath Go.Proofs.Ytckfbpgjegbmlaa.SpecC0FnSamePath Go.Proofs.Ytckfbpgjegbmlaa.SpecT0FnSamePath Go.Lib.Pa

theorem spec_same (a b : ByteArray) (ha : a.size ≤ 65536) (hb : b.size ≤ 65536) : Ev (fun k => spec_SameFilePath.f k a b) (cleaned a == cleaned b) := by
  have za := trimmed_len a.data.toList
  have zb := trimmed_len b.data.toList
  rw [size_len] at za zb
  have ca := spec_clean (ofL (trimOf a.data.toList)) (by rw [ofL_size]; omega)
  have cb := spec_clean (ofL (trimOf b.data.toList)) (by rw [ofL_size]; omega)
  rw [ofL_data] at ca cb
  refine Ev.congr (f := fun k => (spec_ToSlashTrim.f k a).bind fun t136 => (spec_pathClean.f k t136).bind fun t137 => (spec_ToSlashTrim.f k b).bind fun t138 => (spec_pathClean.f k t138).bind fun t139 => some (t137.toList == t139.toList)) (fun k => by unfold spec_SameFilePath.f; rfl) ?_
  refine Ev.bind (f := fun k t136 => (spec_pathClean.f k t136).bind fun t137 => (spec_ToSlashTrim.f k b).bind fun t138 => (spec_pathClean.f k t138).bind fun t139 => some (t137.toList == t139.toList)) (sp_toTrim a (by omega)) ?_
  refine Ev.bind (f := fun k t137 => (spec_ToSlashTrim.f k b).bind fun t138 => (spec_pathClean.f k t138).bind fun t139 => some (t137.toList == t139.toList)) ca ?_
  refine Ev.bind (f := fun k t138 => (spec_pathClean.f k t138).bind fun t139 => some ((ofL (cleanEls (trimOf a.data.toList))).toList == t139.toList)) (sp_toTrim b (by omega)) ?_
  refine Ev.bind (f := fun k t139 => some ((ofL (cleanEls (trimOf a.data.toList))).toList == t139.toList)) cb ?_
  simp only [list_eq, ofL_data]
  exact Ev.now _

theorem FnSamePath : laws_FnSamePath.Pure := by
  intro a b ha hb
  refine Ev.rounds ?_
  have j0t : Ev (fun k => laws_FnSamePath.j0 k a b true) true := Ev.step (f := fun _ => some true) (fun k => by simp only [laws_FnSamePath.j0, if_true]) (Ev.now _)
  by_cases h1 : (a.size : Int) > 2147483647
  · exact Ev.congr (fun k => by unfold laws_FnSamePath.f; rw [if_pos h1]) j0t
  by_cases h2 : (b.size : Int) > 2147483647
  · have d2 : decide ((b.size : Int) > 2147483647) = true := decide_eq_true h2
    exact Ev.congr (fun k => by unfold laws_FnSamePath.f; rw [if_neg h1, d2]) j0t
  have w1 : wrap64 ((a.size : Int) + (b.size : Int)) = (a.size : Int) + (b.size : Int) := wrap_id _ (by omega)
  refine Ev.congr (f := fun k => laws_FnSamePath.j0 k a b false) (fun k => by unfold laws_FnSamePath.f; rw [if_neg h1, decide_eq_false h2]) ?_
  by_cases h3 : (a.size : Int) + (b.size : Int) > 65536
  · refine Ev.step (f := fun _ => some true) (fun k => ?_) (Ev.now _)
    simp only [laws_FnSamePath.j0, Bool.false_eq_true, if_false, w1, if_pos h3]
  have s1 := same_f a b (by omega) (by omega)
  have s2 := spec_same a b (by omega) (by omega)
  have s3 := same_f b a (by omega) (by omega)
  have s4 := same_f a a (by omega) (by omega)
  have sym : (cleaned b == cleaned a) = (cleaned a == cleaned b) := by
    rw [Bool.eq_iff_iff, beq_iff_eq, beq_iff_eq]; exact eq_comm
  rw [sym] at s3
  refine Ev.step (f := fun k => (impl_SameFilePath.f k a b).bind fun t140 => (spec_SameFilePath.f k a b).bind fun t141 => if (t140 == t141) = true then (impl_SameFilePath.f k b a).bind fun t142 => if (t142 == t140) = true then (impl_SameFilePath.f k a a).bind fun t144 => some t144 else some false else some false) (fun k => ?_) ?_
  · simp only [laws_FnSamePath.j0, Bool.false_eq_true, if_false, w1, if_neg h3]
    cases impl_SameFilePath.f k a b <;> rfl
  refine Ev.bind (f := fun k t140 => (spec_SameFilePath.f k a b).bind fun t141 => if (t140 == t141) = true then (impl_SameFilePath.f k b a).bind fun t142 => if (t142 == t140) = true then (impl_SameFilePath.f k a a).bind fun t144 => some t144 else some false else some false) s1 ?_
  refine Ev.bind (f := fun k t141 => if ((cleaned a == cleaned b) == t141) = true then (impl_SameFilePath.f k b a).bind fun t142 => if (t142 == (cleaned a == cleaned b)) = true then (impl_SameFilePath.f k a a).bind fun t144 => some t144 else some false else some false) s2 ?_
  simp only [beq_self_eq_true, if_true]
  refine Ev.bind (f := fun k t142 => if (t142 == (cleaned a == cleaned b)) = true then (impl_SameFilePath.f k a a).bind fun t144 => some t144 else some false) s3 ?_
  simp only [beq_self_eq_true, if_true]
  refine Ev.bind (f := fun k t144 => some t144) s4 ?_
  simp only [beq_self_eq_true]
  exact Ev.now _
end Go.Proofs.Ytckfbpgjegbmlaa.Pure
