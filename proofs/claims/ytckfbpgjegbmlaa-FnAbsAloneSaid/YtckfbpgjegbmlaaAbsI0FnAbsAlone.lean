/- What paths.AbsPathify answers: an absolute path cleaned, a relative one behind the folder, cleaned (the printed functions of one statement). -/
import Derived.Test.YtckfbpgjegbmlaaPFnAbsAlonex1
import Derived.Test.YtckfbpgjegbmlaaClean0
import Derived.Test.YtckfbpgjegbmlaaOwnPath
import Derived.Lib.CleanSame
set_option linter.unusedVariables false
namespace Go.Proofs.Ytckfbpgjegbmlaa.AbsI0FnAbsAlone
open Go.RowKit Go.Proofs.Ytckfbpgjegbmlaa.PFnAbsAlone Go.Proofs.YtckfbpgjegbmlaaW.PrintWords Go.Proofs.YtckfbpgjegbmlaaW.PrintLast Go.Proofs.Ytckfbpgjegbmlaa.Lib0 Go.Proofs.Ytckfbpgjegbmlaa Go.Proofs.Ytckfbpgjegbmlaa.Trim0 Go.Lib.Pa

theorem bind_id {α : Type} (x : Option α) : (x.bind fun t => some t) = x := by cases x <;> rfl
theorem sl_lit : (⟨#[47]⟩ : ByteArray) = stSl := rfl

theorem one_eq (s : ByteArray) (i : Nat) (h : i < s.size) : ((s.extract i (i + 1)).toList == stSl.toList) = decide (bt s i = 47) := by
  have h' : i < s.data.toList.length := by rw [size_len]; exact h
  have e : (s.extract i (i + 1)).toList = [s.data.toList[i]] := by
    rw [list_eq, data_ext]
    rw [List.take_succ_eq_append_getElem h', List.drop_append_of_le_length (by simp; omega)]
    simp
  rw [e, list_eq, stSl_list, bt_list]
  have g : s.data.toList.getD (i : Int).toNat 0 = s.data.toList[i] := getD_in _ _ _ h'
  rw [g]
  by_cases c : s.data.toList[i] = 47
  · rw [c]; rfl
  · have h2 := mt (byte47 s.data.toList[i]).1 c
    rw [decide_eq_false h2]
    simpa using c

theorem hp_f (s : ByteArray) : stringslite_HasPrefix.f s stSl = some (decide (Ahead s)) := by
  unfold stringslite_HasPrefix.f
  rw [stSl_size]
  by_cases h : (s.size : Int) ≥ ((1 : Nat) : Int)
  · rw [if_pos h, if_pos (by omega), if_pos (by omega)]
    have e := one_eq s 0 (by omega)
    rw [show (((1 : Nat) : Int)).toNat = 0 + 1 from rfl, e]
    congr 1
    apply decide_eq_decide.2
    unfold Ahead
    exact ⟨fun x => ⟨by omega, x⟩, fun x => x.2⟩
  · rw [if_neg h]
    congr 1
    have : ¬ Ahead s := fun x => by have := x.1; omega
    simp [this]

/-- the path that a relative one is in a folder. -/
def absOf (a b : List UInt8) (abs : Bool) : List UInt8 :=
  if abs then cleanEls b else if a = [] then (if b = [] then [] else cleanEls b) else if b = [] then cleanEls a else cleanEls (a ++ [47] ++ b)

theorem join_two (a b : List UInt8) : Lib.Pa.join [a, b] = absOf a b false := by
  unfold Lib.Pa.join absOf
  by_cases h1 : a = []
  · by_cases h2 : b = []
    · simp [h1, h2]
    · simp [h1, h2, clean_eq_cleanEls, List.intercalate]
  · by_cases h2 : b = []
    · simp [h1, h2, clean_eq_cleanEls, List.intercalate]
    · simp [h1, h2, clean_eq_cleanEls, List.intercalate]

theorem abs_f (a b : ByteArray) (ha : a.size ≤ 10000000000) (hb : b.size ≤ 10000000000) : impl_AbsPathify.f a b = some (ofL (absOf a.data.toList b.data.toList (decide (Trim0.Ahead b)))) := by
  unfold impl_AbsPathify.f paths_AbsPathify.f filepath_IsAbs.f filepathlite_IsAbs.f
  rw [sl_lit, hp_f]
  by_cases h : Trim0.Ahead b
  · simp only [h, decide_true, Option.bind_some, if_true]
    unfold filepath_Clean.f
    rw [if_pos (by omega)]
    simp [absOf]
  · simp only [h, decide_false, Option.bind_some, Bool.false_eq_true, if_false]
    unfold filepath_Join.f
    have z : Lib.lens (([a, b] : List ByteArray).map (·.data.toList)) + ([a, b] : List ByteArray).length ≤ 140737488355328 := by
      simp [Lib.lens]
      have := size_len a
      have := size_len b
      simp at *
      omega
    rw [if_pos ⟨by simp, z⟩]
    simp only [Option.bind_some, List.map_cons, List.map_nil, join_two]
end Go.Proofs.Ytckfbpgjegbmlaa.AbsI0FnAbsAlone
