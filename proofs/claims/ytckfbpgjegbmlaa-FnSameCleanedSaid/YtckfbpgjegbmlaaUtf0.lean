/- How far a decoder goes: what stands in the bytes that one rune takes. No program here. -/
import Derived.Test.YtckfbpgjegbmlaaLib0
import GoSem.Core.Utf8
set_option linter.unusedVariables false
namespace Go.Proofs.Ytckfbpgjegbmlaa.Utf0
open Go.RowKit Go.Proofs.YtckfbpgjegbmlaaW.PrintWords Go.Proofs.Ytckfbpgjegbmlaa.Lib0

theorem get_bt (s : ByteArray) (i : Nat) : ((s.get! i).toNat : Int) = bt s i := by
  unfold bt
  have e : s.get! i = s.data.getD i default := rfl
  by_cases h : i < s.size
  · have h' : i < s.data.size := h
    rw [dif_pos (by exact h), e, Array.getD_eq_getD_getElem?, Array.getElem?_eq_getElem h']
    rfl
  · have h' : ¬ i < s.data.size := h
    rw [dif_neg (by exact h), e, Array.getD_eq_getD_getElem?, Array.getElem?_eq_none (by omega)]
    rfl

structure Span (s : ByteArray) (pos : Nat) : Prop where
  one : 1 ≤ (Utf8.decode s pos).2
  fits : pos + (Utf8.decode s pos).2 ≤ s.size
  low : bt s pos < 128 → (Utf8.decode s pos).2 = 1 ∧ ((Utf8.decode s pos).1 : Int) = bt s pos
  high : 128 ≤ bt s pos → 128 ≤ (Utf8.decode s pos).1 ∧ ∀ j : Nat, pos ≤ j → j < pos + (Utf8.decode s pos).2 → 128 ≤ bt s j

theorem span (s : ByteArray) (pos : Nat) (h : pos < s.size) : Span s pos := by
  have g0 := get_bt s pos
  have g1 := get_bt s (pos + 1)
  have g2 := get_bt s (pos + 2)
  have g3 := get_bt s (pos + 3)
  have key : ∀ w r, Utf8.decode s pos = (r, w) → 1 ≤ w → pos + w ≤ s.size → (bt s pos < 128 → w = 1 ∧ (r : Int) = bt s pos) → (128 ≤ bt s pos → 128 ≤ r ∧ ∀ j : Nat, pos ≤ j → j < pos + w → 128 ≤ bt s j) → Span s pos := by
    intro w r e a b c d
    exact ⟨by rw [e]; exact a, by rw [e]; exact b, by rw [e]; exact c, by rw [e]; exact d⟩
  have at1 : ∀ j : Nat, j = pos + 1 → bt s j = bt s ((pos + 1 : Nat) : Int) := fun j e => by rw [e]
  by_cases c0 : (s.get! pos).toNat < 0x80
  · refine key 1 (s.get! pos).toNat ?_ (by omega) (by omega) (fun _ => ⟨rfl, g0⟩) (fun q => by omega)
    unfold Utf8.decode
    simp [c0]
  have hb : 128 ≤ bt s pos := by omega
  have one : ∀ j : Nat, pos ≤ j → j < pos + 1 → 128 ≤ bt s j := fun j a b => by
    have : j = pos := by omega
    rw [this]; exact hb
  have bad : Utf8.decode s pos = (0xFFFD, 1) → Span s pos := fun e =>
    key 1 0xFFFD e (by omega) (by omega) (fun q => by omega) (fun _ => ⟨by omega, one⟩)
  have go : Utf8.decode s pos = if ((s.get! pos).toNat / 32 == 6 && (decide (pos + 1 < s.size) && (s.get! (pos + 1)).toNat / 64 == 2)) = true then (if ((s.get! pos).toNat % 32) * 64 + (s.get! (pos + 1)).toNat % 64 ≥ 0x80 then (((s.get! pos).toNat % 32) * 64 + (s.get! (pos + 1)).toNat % 64, 2) else (0xFFFD, 1))
      else if ((s.get! pos).toNat / 16 == 14 && (decide (pos + 1 < s.size) && (s.get! (pos + 1)).toNat / 64 == 2) && (decide (pos + 2 < s.size) && (s.get! (pos + 2)).toNat / 64 == 2)) = true then (if (decide (((s.get! pos).toNat % 16) * 4096 + ((s.get! (pos + 1)).toNat % 64) * 64 + (s.get! (pos + 2)).toNat % 64 ≥ 0x800) && Utf8.valid (((s.get! pos).toNat % 16) * 4096 + ((s.get! (pos + 1)).toNat % 64) * 64 + (s.get! (pos + 2)).toNat % 64 : Nat)) = true then (((s.get! pos).toNat % 16) * 4096 + ((s.get! (pos + 1)).toNat % 64) * 64 + (s.get! (pos + 2)).toNat % 64, 3) else (0xFFFD, 1))
      else if ((s.get! pos).toNat / 8 == 30 && (decide (pos + 1 < s.size) && (s.get! (pos + 1)).toNat / 64 == 2) && (decide (pos + 2 < s.size) && (s.get! (pos + 2)).toNat / 64 == 2) && (decide (pos + 3 < s.size) && (s.get! (pos + 3)).toNat / 64 == 2)) = true then (if (decide (((s.get! pos).toNat % 8) * 262144 + ((s.get! (pos + 1)).toNat % 64) * 4096 + ((s.get! (pos + 2)).toNat % 64) * 64 + (s.get! (pos + 3)).toNat % 64 ≥ 0x10000) && Utf8.valid (((s.get! pos).toNat % 8) * 262144 + ((s.get! (pos + 1)).toNat % 64) * 4096 + ((s.get! (pos + 2)).toNat % 64) * 64 + (s.get! (pos + 3)).toNat % 64 : Nat)) = true then (((s.get! pos).toNat % 8) * 262144 + ((s.get! (pos + 1)).toNat % 64) * 4096 + ((s.get! (pos + 2)).toNat % 64) * 64 + (s.get! (pos + 3)).toNat % 64, 4) else (0xFFFD, 1))
      else (0xFFFD, 1) := by
    unfold Utf8.decode
    simp only [Nat.add_zero]
    rw [if_neg c0]
    rfl
  by_cases c1 : ((s.get! pos).toNat / 32 == 6 && (decide (pos + 1 < s.size) && (s.get! (pos + 1)).toNat / 64 == 2)) = true
  · rw [if_pos c1] at go
    simp at c1
    obtain ⟨d1, d2, d3⟩ := c1
    split at go
    · rename_i c2
      exact key 2 _ go (by omega) (by omega) (fun q => by omega) (fun _ => ⟨c2, fun j a b => by
        rcases (by omega : j = pos ∨ j = pos + 1) with rfl | rfl <;> omega⟩)
    · exact bad go
  rw [if_neg c1] at go
  by_cases c3 : ((s.get! pos).toNat / 16 == 14 && (decide (pos + 1 < s.size) && (s.get! (pos + 1)).toNat / 64 == 2) && (decide (pos + 2 < s.size) && (s.get! (pos + 2)).toNat / 64 == 2)) = true
  · rw [if_pos c3] at go
    simp at c3
    obtain ⟨⟨d1, d2, d3⟩, d4, d5⟩ := c3
    split at go
    · rename_i c2
      simp at c2
      exact key 3 _ go (by omega) (by omega) (fun q => by omega) (fun _ => ⟨by omega, fun j a b => by
        rcases (by omega : j = pos ∨ j = pos + 1 ∨ j = pos + 2) with rfl | rfl | rfl <;> omega⟩)
    · exact bad go
  rw [if_neg c3] at go
  by_cases c4 : ((s.get! pos).toNat / 8 == 30 && (decide (pos + 1 < s.size) && (s.get! (pos + 1)).toNat / 64 == 2) && (decide (pos + 2 < s.size) && (s.get! (pos + 2)).toNat / 64 == 2) && (decide (pos + 3 < s.size) && (s.get! (pos + 3)).toNat / 64 == 2)) = true
  · rw [if_pos c4] at go
    simp at c4
    obtain ⟨⟨⟨d1, d2, d3⟩, d4, d5⟩, d6, d7⟩ := c4
    split at go
    · rename_i c2
      simp at c2
      exact key 4 _ go (by omega) (by omega) (fun q => by omega) (fun _ => ⟨by omega, fun j a b => by
        rcases (by omega : j = pos ∨ j = pos + 1 ∨ j = pos + 2 ∨ j = pos + 3) with rfl | rfl | rfl | rfl <;> omega⟩)
    · exact bad go
  rw [if_neg c4] at go
  exact bad go

end Go.Proofs.Ytckfbpgjegbmlaa.Utf0
