/- What the statements' 'has' answers (the printed function of one statement). -/
import Derived.Test.YthjddnmfpdcjnaaDoorPL6x1
import Derived.Test.YthjddnmfpdcjnaaDoorLib0
set_option linter.unusedVariables false
namespace Go.Proofs.YthjddnmfpdcjnaaDoor.Has0L6
open Go.RowKit Go.Proofs.YthjddnmfpdcjnaaDoor.PL6 Go.Proofs.YthjddnmfpdcjnaaDoorW.PrintWords Go.Proofs.YthjddnmfpdcjnaaDoorW.PrintLast Go.Proofs.YthjddnmfpdcjnaaDoor.Lib0

/-- a text has another one at a place. -/
def HasAt (s x : ByteArray) (i : Nat) : Prop := i + x.size ≤ s.size ∧ (s.extract i (i + x.size)).toList = x.toList

theorem has_loop (s x : ByteArray) (hs : s.size ≤ 140737488361232) (hx : x.size ≤ 140737488361232) : ∀ (d i : Nat), s.size + 1 - i = d → i ≤ s.size + 1 →
    ∃ b, Ev (fun k => laws_has.l0 k s x i) b ∧ (b = true → ∃ j, i ≤ j ∧ HasAt s x j) ∧ (b = false → ∀ j, i ≤ j → ¬ HasAt s x j) := by
  intro d
  induction d with
  | zero =>
    intro i hd hi
    refine ⟨false, Ev.step (f := fun _ => some false) (fun k => ?_) (Ev.now _), (fun h => by cases h), fun _ j hj h => by have := h.1; omega⟩
    simp only [laws_has.l0]; rw [wrap_id _ (by omega), if_neg (by omega)]
  | succ d ih =>
    intro i hd hi
    by_cases h1 : i + x.size ≤ s.size
    · by_cases h2 : (s.extract i (i + x.size)).toList = x.toList
      · refine ⟨true, Ev.step (f := fun _ => some true) (fun k => ?_) (Ev.now _), fun _ => ⟨i, Nat.le_refl _, h1, h2⟩, (fun h => by cases h)⟩
        simp only [laws_has.l0]; rw [wrap_id ((i : Int) + (x.size : Int)) (by omega), if_pos (by omega), if_pos (by omega), if_pos (by omega)]
        rw [show ((i : Int)).toNat = i from rfl, show ((i : Int) + (x.size : Int)).toNat = i + x.size by omega, if_pos h2]
      · obtain ⟨b, hb, ht, hf⟩ := ih (i + 1) (by omega) (by omega)
        refine ⟨b, Ev.step (fun k => ?_) hb, fun e => by obtain ⟨j, a, c⟩ := ht e; exact ⟨j, by omega, c⟩, fun e j a c => ?_⟩
        · simp only [laws_has.l0]; rw [wrap_id ((i : Int) + (x.size : Int)) (by omega), if_pos (by omega), if_pos (by omega), if_pos (by omega)]
          rw [show ((i : Int)).toNat = i from rfl, show ((i : Int) + (x.size : Int)).toNat = i + x.size by omega, if_neg h2, wrap_id _ (by omega)]
          rfl
        · by_cases g : j = i
          · subst g; exact h2 c.2
          · exact hf e j (by omega) c
    · refine ⟨false, Ev.step (f := fun _ => some false) (fun k => ?_) (Ev.now _), (fun h => by cases h), fun _ j hj h => by have := h.1; omega⟩
      simp only [laws_has.l0]; rw [wrap_id _ (by omega), if_neg (by omega)]

theorem has_tells (s x : ByteArray) (hs : s.size ≤ 140737488361232) (hx : x.size ≤ 140737488361232) :
    ∃ b, Ev (fun k => laws_has.f k s x) b ∧ (b = true → ∃ j, HasAt s x j) ∧ (b = false → ∀ j, ¬ HasAt s x j) := by
  obtain ⟨b, hb, ht, hf⟩ := has_loop s x hs hx (s.size + 1) 0 (by omega) (by omega)
  exact ⟨b, hb, fun e => by obtain ⟨j, _, c⟩ := ht e; exact ⟨j, c⟩, fun e j => hf e j (by omega)⟩

/-- a text has one byte at a place. -/
theorem hasAt_byte (s : ByteArray) (c : UInt8) (i : Nat) : HasAt s ⟨#[c]⟩ i ↔ i < s.size ∧ bt s i = (c.toNat : Int) := by
  have hz : (⟨#[c]⟩ : ByteArray).size = 1 := rfl
  unfold HasAt
  rw [hz]
  constructor
  · rintro ⟨h1, h2⟩
    have h' : i < s.data.toList.length := by rw [size_len]; omega
    refine ⟨by omega, ?_⟩
    rw [bt_list, show ((i : Int)).toNat = i from rfl]
    rw [list_eq, data_ext, list_eq] at h2
    have h3 : (s.data.toList.take (i + 1)).drop i = [s.data.toList[i]] := by
      rw [List.take_succ_eq_append_getElem h', List.drop_append_of_le_length (by simp; omega)]
      simp
    rw [h3] at h2
    have h4 : s.data.toList[i] = c := by simpa using h2
    rw [getD_in _ _ _ h', h4]
  · rintro ⟨h1, h2⟩
    have h' : i < s.data.toList.length := by rw [size_len]; omega
    refine ⟨by omega, ?_⟩
    rw [bt_list, show ((i : Int)).toNat = i from rfl] at h2
    have h3 : (s.data.toList.take (i + 1)).drop i = [s.data.toList[i]] := by
      rw [List.take_succ_eq_append_getElem h', List.drop_append_of_le_length (by simp; omega)]
      simp
    rw [list_eq, data_ext, list_eq, h3]
    have h4 : s.data.toList[i] = c := by
      apply UInt8.toNat_inj.1
      rw [getD_in _ _ _ h'] at h2
      omega
    simp [h4]

end Go.Proofs.YthjddnmfpdcjnaaDoor.Has0L6
