/- Plain words on texts (byte arrays as lists) that the plain laws use. No program here. -/
import Derived.Test.YtmmggofbpcmliaaWWords
set_option linter.unusedVariables false
namespace Go.Proofs.Ytmmggofbpcmliaa.Lib0
open Go.RowKit Go.Proofs.YtmmggofbpcmliaaW.PrintWords

theorem wrap_id (n : Int) (h : -9223372036854775808 ≤ n ∧ n ≤ 9223372036854775807) : wrap64 n = n := by
  unfold wrap64; omega
theorem list_eq (s : ByteArray) : s.toList = s.data.toList := ByteArray.toList_eq s
theorem size_len (s : ByteArray) : s.data.toList.length = s.size := by rw [Array.length_toList]; rfl
theorem data_app (s t : ByteArray) : (s ++ t).data.toList = s.data.toList ++ t.data.toList := by simp
theorem list_app (s t : ByteArray) : (s ++ t).toList = s.toList ++ t.toList := by simp [list_eq]
theorem data_ext (s : ByteArray) (a b : Nat) : (s.extract a b).data.toList = (s.data.toList.take b).drop a := by
  simp [ByteArray.data_extract, Array.toList_extract, List.extract, List.drop_take]
theorem list_ext (s : ByteArray) (a b : Nat) : (s.extract a b).toList = (s.toList.take b).drop a := by rw [list_eq, list_eq, data_ext]
theorem bytes_ext {s t : ByteArray} (h : s.data.toList = t.data.toList) : s = t := by
  cases s; cases t; simp_all
theorem bytes_ext' {s t : ByteArray} (h : s.toList = t.toList) : s = t := bytes_ext (by rw [← list_eq, ← list_eq, h])
theorem getD_in {α : Type} (l : List α) (d : α) (i : Nat) (h : i < l.length) : l.getD i d = l[i] := by simp [List.getD, h]
theorem getD_out {α : Type} (l : List α) (d : α) (i : Nat) (h : l.length ≤ i) : l.getD i d = d := by
  unfold List.getD; rw [List.getElem?_eq_none h]; rfl
theorem bt_list (s : ByteArray) (i : Int) : bt s i = ((s.data.toList.getD i.toNat 0).toNat : Int) := by
  unfold bt
  split
  · rename_i h
    have h' : i.toNat < s.data.toList.length := by rw [size_len]; exact h
    rw [getD_in _ _ _ h']; rfl
  · rename_i h
    have h' : s.data.toList.length ≤ i.toNat := by rw [size_len]; omega
    rw [getD_out _ _ _ h']; rfl
theorem bt_extract (s : ByteArray) (a b : Nat) (i : Int) (h0 : 0 ≤ i) (h1 : a + i < b) (h2 : a + i < s.size) : bt (s.extract a b) i = bt s (a + i) := by
  have hz : (s.extract a b).size = min b s.size - a := by simp
  unfold bt
  have ha : i.toNat < (s.extract a b).size := by omega
  have hb : (a + i).toNat < s.size := by omega
  rw [dif_pos ha, dif_pos hb]
  have : (a + i).toNat = a + i.toNat := by omega
  simp [ByteArray.getElem_extract, this]
theorem bt_app_left (s t : ByteArray) (i : Int) (h0 : 0 ≤ i) (h1 : i < s.size) : bt (s ++ t) i = bt s i := by
  have h2 : i.toNat < s.data.toList.length := by rw [size_len]; omega
  rw [bt_list, bt_list, data_app]
  unfold List.getD
  rw [List.getElem?_append_left h2]
theorem bt_app_right (s t : ByteArray) (i : Int) (h1 : (s.size : Int) ≤ i) : bt (s ++ t) i = bt t (i - s.size) := by
  have h2 : s.data.toList.length ≤ i.toNat := by rw [size_len]; omega
  have e : (i - s.size).toNat = i.toNat - s.data.toList.length := by rw [size_len]; omega
  rw [bt_list, bt_list, data_app, e]
  unfold List.getD
  rw [List.getElem?_append_right h2]
theorem app_size (s t : ByteArray) : (s ++ t).size = s.size + t.size := by simp
theorem ext_size (s : ByteArray) (a b : Nat) : (s.extract a b).size = min b s.size - a := by simp
end Go.Proofs.Ytmmggofbpcmliaa.Lib0
namespace Go.Proofs.Ytmmggofbpcmliaa
theorem own_map (A : Option Addr) (n c : Nat) : (Value.slice A n c).ownBlock = A.map (·.block) := by cases A <;> rfl
end Go.Proofs.Ytmmggofbpcmliaa
