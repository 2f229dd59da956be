/- What IsSameFilePath answers: whether the two paths, without slashes around, are the same when cleaned (the printed functions of one statement). -/
import Derived.Test.YtckfbpgjegbmlaaPFnSameCleanedx1
import Derived.Test.YtckfbpgjegbmlaaTrimI0FnSameCleaned
import Derived.Test.YtckfbpgjegbmlaaOwnPath
set_option linter.unusedVariables false
namespace Go.Proofs.Ytckfbpgjegbmlaa.SameI0FnSameCleaned
open Go.RowKit Go.Proofs.Ytckfbpgjegbmlaa.PFnSameCleaned Go.Proofs.YtckfbpgjegbmlaaW.PrintWords Go.Proofs.YtckfbpgjegbmlaaW.PrintLast Go.Proofs.Ytckfbpgjegbmlaa.Lib0 Go.Proofs.Ytckfbpgjegbmlaa Go.Proofs.Ytckfbpgjegbmlaa.Trim0 Go.Proofs.Ytckfbpgjegbmlaa.TrimI0FnSameCleaned Go.Lib.Pa

def cleaned (s : ByteArray) : List UInt8 := cleanEls (trimOf s.data.toList)

theorem clean_f (s : ByteArray) (hs : s.size ≤ 140737488361232) : path_Clean.f (ofL (trimOf s.data.toList)) = some (ofL (cleaned s)) := by
  have hl := trimmed_len s.data.toList
  rw [size_len] at hl
  unfold path_Clean.f cleaned
  rw [if_pos (by rw [ofL_size]; omega), ofL_data]

theorem same_f (a b : ByteArray) (ha : a.size ≤ 140737488361232) (hb : b.size ≤ 140737488361232) : Ev (fun k => impl_SameFilePath.f k a b) (cleaned a == cleaned b) := by
  refine Ev.congr (f := fun k => (paths_ToSlashTrim.f k a).bind fun t106 => (path_Clean.f t106).bind fun t107 => (paths_ToSlashTrim.f k b).bind fun t108 => (path_Clean.f t108).bind fun t109 => some (t107.toList == t109.toList)) (fun k => ?_) ?_
  · unfold impl_SameFilePath.f paths_IsSameFilePath.f; rw [bind_id]
  refine Ev.bind (f := fun k t106 => (path_Clean.f t106).bind fun t107 => (paths_ToSlashTrim.f k b).bind fun t108 => (path_Clean.f t108).bind fun t109 => some (t107.toList == t109.toList)) (toTrim_p a ha) ?_
  simp only [clean_f a ha, Option.bind_some]
  refine Ev.bind (f := fun k t108 => (path_Clean.f t108).bind fun t109 => some ((ofL (cleaned a)).toList == t109.toList)) (toTrim_p b hb) ?_
  simp only [clean_f b hb, Option.bind_some, list_eq, ofL_data]
  exact Ev.now _
end Go.Proofs.Ytckfbpgjegbmlaa.SameI0FnSameCleaned
