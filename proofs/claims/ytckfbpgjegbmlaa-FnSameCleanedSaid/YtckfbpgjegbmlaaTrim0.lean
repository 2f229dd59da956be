/- A text without the slashes at its beginning and its end, on lists. No program's run here. -/
import Derived.Test.YtckfbpgjegbmlaaOwnTrim
set_option linter.unusedVariables false
namespace Go.Proofs.Ytckfbpgjegbmlaa.Trim0
open Go.RowKit Go.Proofs.YtckfbpgjegbmlaaW.PrintWords Go.Proofs.Ytckfbpgjegbmlaa.Lib0 Go.Proofs.Ytckfbpgjegbmlaa

def stripEnd (l : List UInt8) : List UInt8 := l.take (l.length - lead l.reverse)
theorem stripEnd_nil : stripEnd [] = [] := rfl
theorem stripEnd_slash (l : List UInt8) : stripEnd (l ++ [47]) = stripEnd l := by
  unfold stripEnd
  have e : lead (l ++ [47]).reverse = lead l.reverse + 1 := by rw [List.reverse_append]; show lead (47 :: l.reverse) = _; rw [lead, if_pos rfl]
  have := lead_le l.reverse
  rw [List.length_reverse] at this
  rw [e, List.length_append, List.length_singleton, List.take_append_of_le_length (by omega)]
  congr 1; omega
theorem stripEnd_other (l : List UInt8) (c : UInt8) (h : c ≠ 47) : stripEnd (l ++ [c]) = l ++ [c] := by
  unfold stripEnd
  have e : lead (l ++ [c]).reverse = 0 := by rw [List.reverse_append]; show lead (c :: l.reverse) = _; rw [lead, if_neg h]
  rw [e, Nat.sub_zero, List.take_length]
def dropLead (l : List UInt8) : List UInt8 := l.drop (lead l)
theorem dropLead_slash (l : List UInt8) : dropLead (47 :: l) = dropLead l := by unfold dropLead; rw [lead, if_pos rfl]; rfl
theorem dropLead_other (l : List UInt8) (c : UInt8) (h : c ≠ 47) : dropLead (c :: l) = c :: l := by unfold dropLead; rw [lead, if_neg h]; rfl
theorem dropLead_nil : dropLead [] = [] := rfl
def trimOf (l : List UInt8) : List UInt8 := stripEnd (dropLead l)
def ofL (l : List UInt8) : ByteArray := ⟨l.toArray⟩
theorem ofL_data (l : List UInt8) : (ofL l).data.toList = l := by simp [ofL]
theorem ofL_size (l : List UInt8) : (ofL l).size = l.length := by simp [ofL, ByteArray.size]
theorem stripEnd_len (l : List UInt8) : (stripEnd l).length ≤ l.length := by unfold stripEnd; rw [List.length_take]; omega
theorem dropLead_len (l : List UInt8) : (dropLead l).length ≤ l.length := by unfold dropLead; rw [List.length_drop]; omega
theorem trimmed_len (l : List UInt8) : (trimOf l).length ≤ l.length := Nat.le_trans (stripEnd_len _) (dropLead_len _)

theorem byte47 (c : UInt8) : ((c.toNat : Int) = 47) ↔ c = 47 := by
  constructor
  · intro h
    apply UInt8.toNat_inj.1
    show c.toNat = 47
    omega
  · rintro rfl; rfl

def Ahead (s : ByteArray) : Prop := 0 < s.size ∧ bt s 0 = 47
def Behind (s : ByteArray) : Prop := 0 < s.size ∧ bt s ((s.size : Int) - 1) = 47
instance (s : ByteArray) : Decidable (Ahead s) := by unfold Ahead; infer_instance
instance (s : ByteArray) : Decidable (Behind s) := by unfold Behind; infer_instance
def stSl : ByteArray := ⟨#[47]⟩
theorem stSl_size : stSl.size = 1 := rfl
theorem stSl_list : stSl.data.toList = [47] := rfl
theorem stSl_bt : bt stSl 0 = 47 := by rw [bt_list, stSl_list]; rfl

/-- a text's first byte, and the rest. -/
theorem first_of (s : ByteArray) (h : 0 < s.size) : ∃ c l, s.data.toList = c :: l ∧ (bt s 0 = 47 ↔ c = 47) ∧ (s.extract 1 s.size).data.toList = l := by
  have hl := size_len s
  cases e : s.data.toList with
  | nil => rw [e] at hl; simp at hl; omega
  | cons c l =>
    refine ⟨c, l, rfl, ?_, ?_⟩
    · rw [bt_list, e]; exact byte47 c
    · rw [data_ext, List.take_of_length_le (by rw [hl]; exact Nat.le_refl _), e]; rfl
theorem last_of (s : ByteArray) (h : 0 < s.size) : ∃ c l, s.data.toList = l ++ [c] ∧ (bt s ((s.size : Int) - 1) = 47 ↔ c = 47) ∧ (s.extract 0 (s.size - 1)).data.toList = l := by
  have hl := size_len s
  have hne : s.data.toList ≠ [] := fun e => by rw [e] at hl; simp at hl; omega
  refine ⟨s.data.toList.getLast hne, s.data.toList.dropLast, (List.dropLast_concat_getLast hne).symm, ?_, ?_⟩
  · have hi : s.size - 1 < s.data.toList.length := by omega
    rw [bt_list, show ((s.size : Int) - 1).toNat = s.size - 1 by omega, getD_in _ _ _ hi, List.getLast_eq_getElem]
    simp only [hl]
    exact byte47 _
  · rw [data_ext, List.drop_zero, List.dropLast_eq_take, hl]

def addL (s : ByteArray) : ByteArray := if Ahead s then s else stSl ++ s
def addT (s : ByteArray) : ByteArray := if Behind s then s else s ++ stSl
def cutL (s : ByteArray) : ByteArray := if Ahead s then s.extract 1 s.size else s
def cutT (s : ByteArray) : ByteArray := if Behind s then s.extract 0 (s.size - 1) else s
theorem addL_size (s : ByteArray) : (addL s).size ≤ s.size + 1 := by
  unfold addL; split
  · omega
  · rw [app_size, stSl_size]; omega
theorem addT_size (s : ByteArray) : (addT s).size ≤ s.size + 1 := by
  unfold addT; split
  · omega
  · rw [app_size, stSl_size]; omega
theorem trim_ahead {s : ByteArray} (h : Ahead s) : trimOf s.data.toList = trimOf (s.extract 1 s.size).data.toList := by
  obtain ⟨c, l, e, hc, hx⟩ := first_of s h.1
  have := hc.1 h.2
  subst this
  rw [hx, e]
  unfold trimOf; rw [dropLead_slash]
theorem trim_not_ahead {s : ByteArray} (h : ¬ Ahead s) : trimOf s.data.toList = stripEnd s.data.toList := by
  unfold trimOf
  by_cases h0 : 0 < s.size
  · obtain ⟨c, l, e, hc, hx⟩ := first_of s h0
    rw [e, dropLead_other]
    intro q; exact h ⟨h0, hc.2 q⟩
  · have : s.data.toList = [] := List.eq_nil_of_length_eq_zero (by rw [size_len]; omega)
    rw [this]; rfl
theorem strip_behind {s : ByteArray} (h : Behind s) : stripEnd s.data.toList = stripEnd (s.extract 0 (s.size - 1)).data.toList := by
  obtain ⟨c, l, e, hc, hx⟩ := last_of s h.1
  have := hc.1 h.2
  subst this
  rw [hx, e, stripEnd_slash]
theorem strip_not_behind {s : ByteArray} (h : ¬ Behind s) : stripEnd s.data.toList = s.data.toList := by
  by_cases h0 : 0 < s.size
  · obtain ⟨c, l, e, hc, hx⟩ := last_of s h0
    rw [e, stripEnd_other]
    intro q; exact h ⟨h0, hc.2 q⟩
  · have : s.data.toList = [] := List.eq_nil_of_length_eq_zero (by rw [size_len]; omega)
    rw [this]; rfl
end Go.Proofs.Ytckfbpgjegbmlaa.Trim0
