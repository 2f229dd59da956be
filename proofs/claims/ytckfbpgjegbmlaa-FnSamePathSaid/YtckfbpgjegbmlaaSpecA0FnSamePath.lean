/- What the reference's pathAhead answers (the printed functions of one statement). -/
import Derived.Test.YtckfbpgjegbmlaaPFnSamePathx2
import Derived.Test.YtckfbpgjegbmlaaTrim0
set_option linter.unusedVariables false
namespace Go.Proofs.Ytckfbpgjegbmlaa.SpecA0FnSamePath
open Go.RowKit Go.Proofs.Ytckfbpgjegbmlaa.PFnSamePath Go.Proofs.YtckfbpgjegbmlaaW.PrintWords Go.Proofs.YtckfbpgjegbmlaaW.PrintLast Go.Proofs.Ytckfbpgjegbmlaa.Lib0 Go.Proofs.Ytckfbpgjegbmlaa Go.Proofs.Ytckfbpgjegbmlaa.Trim0

theorem sp_nil (s : ByteArray) : (s.toList = ([] : List UInt8)) ↔ s.size = 0 := by
  rw [list_eq]
  constructor
  · intro h; rw [← size_len, h]; rfl
  · intro h; exact List.eq_nil_of_length_eq_zero (by rw [size_len]; exact h)

theorem sp_ahead (s : ByteArray) : spec_pathAhead.f s = some (decide (Trim0.Ahead s)) := by
  unfold spec_pathAhead.f
  by_cases h : s.size = 0
  · have : ¬ Trim0.Ahead s := fun x => by have := x.1; omega
    rw [if_pos ((sp_nil s).2 h)]; simp [this]
  · rw [if_neg (fun e => h ((sp_nil s).1 e)), if_pos (by omega)]
    congr 1
    unfold Trim0.Ahead
    by_cases q : bt s 0 = 47
    · have : 0 < s.size := by omega
      simp [q, this]
    · simp [q]
end Go.Proofs.Ytckfbpgjegbmlaa.SpecA0FnSamePath
