/- FnSlashesTwice, the plain law: adding slashes a second time changes nothing, and what was added is what there is, for every text. -/
import Derived.Test.YtelijbnnhgmklaaPFnSlashesTwicex1
import Derived.Test.YtelijbnnhgmklaaLib0
namespace Go.Proofs.Ytelijbnnhgmklaa.Pure
open Go.RowKit Go.Proofs.Ytelijbnnhgmklaa.PFnSlashesTwice Go.Proofs.YtelijbnnhgmklaaW.PrintWords Go.Proofs.YtelijbnnhgmklaaW.PrintLast Go.Proofs.Ytelijbnnhgmklaa.Lib0

def stSl : ByteArray := ⟨#[47]⟩
theorem stSl_size : stSl.size = 1 := rfl
theorem stSl_list : stSl.data.toList = [47] := rfl
theorem stSl_bt : bt stSl 0 = 47 := by rw [bt_list, stSl_list]; rfl

def Ahead (s : ByteArray) : Prop := 0 < s.size ∧ bt s 0 = 47
def Behind (s : ByteArray) : Prop := 0 < s.size ∧ bt s ((s.size : Int) - 1) = 47
instance (s : ByteArray) : Decidable (Ahead s) := by unfold Ahead; infer_instance
instance (s : ByteArray) : Decidable (Behind s) := by unfold Behind; infer_instance
def lead (s : ByteArray) : ByteArray := if Ahead s then s else stSl ++ s
def trail (s : ByteArray) : ByteArray := if Behind s then s else s ++ stSl

theorem byte_of (c : UInt8) : ((c.toNat : Int) = 47) ↔ c = 47 := by
  constructor
  · intro h
    apply UInt8.toNat_inj.1
    show c.toNat = 47
    omega
  · rintro rfl; rfl

theorem one_eq (s : ByteArray) (i : Nat) (h : i < s.size) : ((s.extract i (i + 1)).toList == stSl.toList) = decide (bt s i = 47) := by
  have h' : i < s.data.toList.length := by rw [size_len]; exact h
  have e : (s.extract i (i + 1)).toList = [s.data.toList[i]] := by
    rw [list_eq, data_ext]
    have : (s.data.toList.take (i + 1)).drop i = [s.data.toList[i]] := by
      rw [List.take_succ_eq_append_getElem h', List.drop_append_of_le_length (by simp; omega)]
      simp
    exact this
  rw [e, list_eq, stSl_list, bt_list]
  have g : s.data.toList.getD (i : Int).toNat 0 = s.data.toList[i] := getD_in _ _ _ h'
  rw [g]
  by_cases c : s.data.toList[i] = 47
  · rw [c]; rfl
  · have h2 := mt (byte_of s.data.toList[i]).1 c
    rw [decide_eq_false h2]
    simpa using c

theorem pre_f (s : ByteArray) : strings_HasPrefix.f s (⟨#[47]⟩ : ByteArray) = some (decide (Ahead s)) := by
  show strings_HasPrefix.f s stSl = _
  unfold strings_HasPrefix.f stringslite_HasPrefix.f
  rw [stSl_size]
  by_cases h : (s.size : Int) ≥ ((1 : Nat) : Int)
  · rw [if_pos h, if_pos (by omega), if_pos (by omega)]
    have e := one_eq s 0 (by omega)
    simp only [Option.bind_some]
    rw [show (((1 : Nat) : Int)).toNat = 0 + 1 from rfl, e]
    congr 1
    apply decide_eq_decide.2
    unfold Ahead
    exact ⟨fun x => ⟨by omega, x⟩, fun x => x.2⟩
  · rw [if_neg h]
    simp only [Option.bind_some]
    congr 1
    have : ¬ Ahead s := fun x => by have := x.1; omega
    simp [this]

theorem suf_f (s : ByteArray) (hs : s.size ≤ 140737488361232) : strings_HasSuffix.f s (⟨#[47]⟩ : ByteArray) = some (decide (Behind s)) := by
  show strings_HasSuffix.f s stSl = _
  unfold strings_HasSuffix.f stringslite_HasSuffix.f
  rw [stSl_size]
  by_cases h : (s.size : Int) ≥ ((1 : Nat) : Int)
  · rw [if_pos h, wrap_id _ (by omega), if_pos (by omega), if_pos (by omega)]
    have e := one_eq s (s.size - 1) (by omega)
    simp only [Option.bind_some]
    rw [show ((s.size : Int) - ((1 : Nat) : Int)).toNat = s.size - 1 by omega]
    rw [show s.size - 1 + 1 = s.size by omega] at e
    rw [e]
    congr 1
    apply decide_eq_decide.2
    unfold Behind
    rw [show ((s.size - 1 : Nat) : Int) = (s.size : Int) - 1 by omega]
    exact ⟨fun x => ⟨by omega, x⟩, fun x => x.2⟩
  · rw [if_neg h]
    simp only [Option.bind_some]
    congr 1
    have : ¬ Behind s := fun x => by have := x.1; omega
    simp [this]

theorem lead_f (s : ByteArray) (hs : s.size ≤ 140737488361232) : impl_AddLeadingSlash.f s = some (lead s) := by
  unfold impl_AddLeadingSlash.f paths_AddLeadingSlash.f lead
  rw [pre_f]
  by_cases h : Ahead s
  · simp [h]
  · simp only [Option.bind_some, h, decide_false, Bool.false_eq_true, if_false]
    rw [if_pos (by omega)]; rfl
theorem trail_f (s : ByteArray) (hs : s.size ≤ 140737488361232) : impl_AddTrailingSlash.f s = some (trail s) := by
  unfold impl_AddTrailingSlash.f paths_AddTrailingSlash.f trail
  rw [suf_f s hs]
  by_cases h : Behind s
  · simp [h]
  · simp only [Option.bind_some, h, decide_false, Bool.false_eq_true, if_false]
    rw [if_pos (by omega)]; rfl
theorem lead_size (s : ByteArray) : (lead s).size ≤ s.size + 1 := by
  unfold lead; split
  · omega
  · rw [app_size, stSl_size]; omega
theorem trail_size (s : ByteArray) : (trail s).size ≤ s.size + 1 := by
  unfold trail; split
  · omega
  · rw [app_size, stSl_size]; omega
theorem both_f (s : ByteArray) (hs : s.size ≤ 140737488351232 + 100) : impl_AddBothSlashes.f s = some (trail (lead s)) := by
  have a := lead_f s (by omega)
  have z := lead_size s
  have b := trail_f (lead s) (by omega)
  unfold impl_AddBothSlashes.f paths_AddLeadingAndTrailingSlash.f
  unfold impl_AddLeadingSlash.f at a
  unfold impl_AddTrailingSlash.f at b
  have a' : paths_AddLeadingSlash.f s = some (lead s) := by
    cases h : paths_AddLeadingSlash.f s with
    | none => rw [h] at a; cases a
    | some x => rw [h] at a; exact a
  have b' : paths_AddTrailingSlash.f (lead s) = some (trail (lead s)) := by
    cases h : paths_AddTrailingSlash.f (lead s) with
    | none => rw [h] at b; cases b
    | some x => rw [h] at b; exact b
  rw [a']; simp only [Option.bind_some]; rw [b']; rfl

theorem ahead_lead (s : ByteArray) : Ahead (lead s) := by
  unfold lead; split
  · assumption
  · refine ⟨by rw [app_size, stSl_size]; omega, ?_⟩
    rw [bt_app_left _ _ _ (by omega) (by rw [stSl_size]; omega)]; exact stSl_bt
theorem behind_trail (s : ByteArray) : Behind (trail s) := by
  unfold trail; split
  · assumption
  · refine ⟨by rw [app_size, stSl_size]; omega, ?_⟩
    rw [bt_app_right _ _ _ (by rw [app_size, stSl_size]; omega), app_size, stSl_size]
    rw [show (((s.size + 1 : Nat) : Int) - 1 - (s.size : Int)) = 0 by omega]; exact stSl_bt
theorem ahead_trail {s : ByteArray} (h : Ahead s) : Ahead (trail s) := by
  unfold trail; split
  · exact h
  · refine ⟨by rw [app_size, stSl_size]; omega, ?_⟩
    have := h.1
    rw [bt_app_left _ _ _ (by omega) (by omega)]; exact h.2
theorem lead_same {s : ByteArray} (h : Ahead s) : lead s = s := by unfold lead; rw [if_pos h]
theorem trail_same {s : ByteArray} (h : Behind s) : trail s = s := by unfold trail; rw [if_pos h]

theorem ne_nil {s : ByteArray} (h : 0 < s.size) : ¬ s.toList = ([] : List UInt8) := by
  intro e
  rw [list_eq] at e
  have := size_len s
  rw [e] at this
  simp at this
  omega

theorem FnSlashesTwice : laws_FnSlashesTwice.Pure := by
  intro s hs
  unfold laws_FnSlashesTwice.f
  by_cases h1 : (s.size : Int) > 2147483647
  · rw [if_pos h1]
  rw [if_neg h1]
  by_cases h2 : (s.size : Int) > 65536
  · rw [if_pos h2]
  rw [if_neg h2]
  have zl := lead_size s
  have zt := trail_size s
  have zb := trail_size (lead s)
  have al := ahead_lead s
  have bt' := behind_trail s
  have ab := ahead_trail al
  have bb := behind_trail (lead s)
  rw [lead_f s (by omega)]; simp only [Option.bind_some]
  rw [trail_f s (by omega)]; simp only [Option.bind_some]
  rw [both_f s (by omega)]; simp only [Option.bind_some]
  rw [lead_f (lead s) (by omega)]; simp only [Option.bind_some]
  rw [lead_same al, if_pos rfl]
  rw [trail_f (trail s) (by omega)]; simp only [Option.bind_some]
  rw [trail_same bt', if_pos rfl]
  rw [both_f (trail (lead s)) (by omega)]; simp only [Option.bind_some]
  rw [lead_same ab, trail_same bb, if_pos rfl]
  rw [if_neg (ne_nil al.1), if_pos (by have := al.1; omega), if_pos al.2]
  rw [if_neg (ne_nil bt'.1)]
  have q := bt'.1
  rw [wrap_id (((trail s).size : Int) - 1) (by omega), if_pos (by omega), if_pos (by omega), if_pos bt'.2]
  rw [trail_f (lead s) (by omega)]; simp only [Option.bind_some, if_true]
  by_cases h0 : s.toList = ([] : List UInt8)
  · rw [if_pos h0]
  rw [if_neg h0]
  have hp : 0 < s.size := by
    rcases Nat.eq_zero_or_pos s.size with z | z
    · exfalso; apply h0
      rw [list_eq]
      exact List.eq_nil_of_length_eq_zero (by rw [size_len]; exact z)
    · exact z
  rw [if_pos (by omega), wrap_id ((s.size : Int) - 1) (by omega)]
  have tl : ¬ Behind s → some ((trail s).toList == (s ++ (⟨#[47]⟩ : ByteArray)).toList) = some true := by
    intro h
    have : trail s = s ++ (⟨#[47]⟩ : ByteArray) := by unfold trail; rw [if_neg h]; rfl
    rw [this]; simp
  by_cases ha : bt s 0 = 47
  · rw [if_pos ha, if_pos (by omega), if_pos (by omega)]
    by_cases hb : bt s ((s.size : Int) - 1) = 47
    · rw [if_pos hb]
    · rw [if_neg hb, if_pos (by omega)]
      exact tl fun x => hb x.2
  · have na : ¬ Ahead s := fun x => ha x.2
    have e : lead s = (⟨#[47]⟩ : ByteArray) ++ s := by unfold lead; rw [if_neg na]; rfl
    rw [if_neg ha, if_pos (by omega), if_pos (by rw [e]), if_pos (by omega), if_pos (by omega)]
    by_cases hb : bt s ((s.size : Int) - 1) = 47
    · rw [if_pos hb]
    · rw [if_neg hb, if_pos (by omega)]
      exact tl fun x => hb x.2

end Go.Proofs.Ytelijbnnhgmklaa.Pure
