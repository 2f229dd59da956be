/- What has, letters and begins of the laws answer, each as one Bool. -/
import Derived.Test.YthjddnmfpdcjnaaDoorLawA
import Derived.Test.YthjddnmfpdcjnaaDoorRx
set_option linter.unusedVariables false
namespace Go.Proofs.YthjddnmfpdcjnaaDoor.LawB
open Go.Rx hiding bt
open Go.RowKit Go.Proofs.YthjddnmfpdcjnaaDoorW.PrintWords Go.Proofs.YthjddnmfpdcjnaaDoor.Lib0 Go.Proofs.YthjddnmfpdcjnaaDoor.Tag0 Go.Proofs.YthjddnmfpdcjnaaDoor.NextW Go.Proofs.YthjddnmfpdcjnaaDoor.PL6 Go.Proofs.YthjddnmfpdcjnaaDoor.Has0L6 Go.Proofs.YthjddnmfpdcjnaaDoor.LawA

open Classical in
noncomputable def hasB (s x : ByteArray) : Bool := decide (∃ j, HasAt s x j)
theorem hasB_iff {s x : ByteArray} : hasB s x = true ↔ ∃ j, HasAt s x j := by unfold hasB; simp
theorem hasB_not {s x : ByteArray} (h : hasB s x = false) : ∀ j, ¬ HasAt s x j := fun j hj => by
  have := hasB_iff.2 ⟨j, hj⟩
  rw [h] at this
  cases this
theorem hasBC (s x : ByteArray) (hs : s.size ≤ 140737488361232) (hx : x.size ≤ 140737488361232) (X : Cx) (m : Mem) : ∀ w, Cl X m w → Calls Tryd.prog 17 #[.string s, .string x] w fun e w' => e = .returned (.bool (hasB s x)) ∧ Cl X m w' := by
  obtain ⟨b, hb, hi⟩ := hasC s x hs hx
  have : hasB s x = b := by
    cases b with
    | true => exact hasB_iff.2 (hi.1 rfl)
    | false =>
      cases h : hasB s x with
      | false => rfl
      | true => exact absurd (hi.2 (hasB_iff.1 h)) (by simp)
  rw [this]
  exact hb X m
theorem or32 : ∀ c : Fin 256, ((decide (Go.bits .or .u8 (c.val : Int) 32 < 97) || decide (Go.bits .or .u8 (c.val : Int) 32 > 122)) == !(ltr (c.val : Int))) = true := by decide +kernel
theorem or32' (c : Int) (h : 0 ≤ c ∧ c ≤ 255) : (Go.bits .or .u8 c 32 < 97 ∨ Go.bits .or .u8 c 32 > 122) ↔ ltr c = false := by
  have := or32 ⟨c.toNat, by omega⟩
  have e : ((c.toNat : Nat) : Int) = c := by omega
  simp only [e, beq_iff_eq] at this
  constructor
  · intro q
    cases hl : ltr c with
    | false => rfl
    | true => rw [hl] at this; simp at this; omega
  · intro q
    rw [q] at this
    simpa using this
def lettersE (s : ByteArray) (i : Nat) : Bool := if i < s.size then ltr (bt s i) && lettersE s (i + 1) else true
termination_by s.size - i
theorem lettersE_all {s : ByteArray} {i : Nat} (h : lettersE s i = true) : ∀ j, i ≤ j → j < s.size → ltr (bt s j) = true := by
  fun_induction lettersE s i with
  | case1 i hi ih =>
    simp only [Bool.and_eq_true] at h
    intro j h1 h2
    rcases Nat.eq_or_lt_of_le h1 with e | e
    · exact e ▸ h.1
    · exact ih h.2 j e h2
  | case2 i hi => intro j h1 h2; omega
theorem letters_loop (s : ByteArray) (hs : s.size ≤ 140737488361232) (i : Nat) : i ≤ s.size → ∀ k, s.size - i < k → laws_letters.l0 k s i = some (lettersE s i) := by
  fun_induction lettersE s i with
  | case1 i hi ih =>
    intro _ k hk
    obtain ⟨k, rfl⟩ : ∃ j, k = j + 1 := ⟨k - 1, by omega⟩
    simp only [laws_letters.l0]
    rw [if_pos (by omega), if_pos (by omega)]
    have ho := or32' (bt s i) (bt_range s i)
    cases hl : ltr (bt s i) with
    | true =>
      have : ¬ (Go.bits .or .u8 (bt s i) 32 < 97 ∨ Go.bits .or .u8 (bt s i) 32 > 122) := fun h => by rw [ho.1 h] at hl; cases hl
      rw [if_neg (fun h => this (.inl h)), if_neg (fun h => this (.inr h)), wrap_id _ (by omega)]
      have := ih (by omega) k (by omega)
      rw [show ((i : Int) + 1) = ((i + 1 : Nat) : Int) by omega, this]
      rfl
    | false =>
      rcases ho.2 hl with h | h
      · rw [if_pos h]; rfl
      · rw [if_neg (by omega), if_pos h]; rfl
  | case2 i hi =>
    intro _ k hk
    obtain ⟨k, rfl⟩ : ∃ j, k = j + 1 := ⟨k - 1, by omega⟩
    simp only [laws_letters.l0]
    rw [if_neg (by omega)]
theorem lettersC (s : ByteArray) (hs : s.size ≤ 140737488361232) (X : Cx) (m : Mem) : ∀ w, Cl X m w → Calls Tryd.prog 16 #[.string s] w fun e w' => e = .returned (.bool (lettersE s 0)) ∧ Cl X m w' :=
  quietC fun w _ => (laws_letters.calls (s.size + 1) s _ w (letters_loop s hs 0 (Nat.zero_le _) _ (by omega))).mono fun e w' ⟨he, hd⟩ => ⟨he, hd.below⟩
theorem beginsC (x y : ByteArray) (hx : x.size ≤ 140737488361232) (hy : y.size ≤ 140737488361232) (X : Cx) (m : Mem) : ∀ w, Cl X m w → Calls Tryd.prog 24 #[.string x, .int .i64 0, .string y] w fun e w' => e = .returned (.bool (hasPre x y)) ∧ Cl X m w' :=
  quietC fun w _ => (laws_begins.calls x 0 y (hasPre x y) w (by
    unfold laws_begins.f hasPre
    rw [if_pos (by omega), wrap_id _ (by omega)]
    by_cases h : y.size ≤ x.size
    · rw [if_pos (by omega), if_pos (by omega), if_pos (by omega)]
      simp [h]
    · rw [if_neg (by omega)]
      simp [h])).mono fun e w' ⟨he, hd⟩ => ⟨he, hd.below⟩
theorem und24 : Tryd.prog.underlying 24 = some (.slice 32) := by kernel_rfl
theorem sz32 : szB Tryd.prog 32 6 = true := by kernel_rfl
theorem bu27 (a b : Int) (c : ByteArray) : Tryd.prog.built 27 [(0, .int .i64 a), (1, .int .i64 b), (2, .string c)] = some [.int .i64 a, .int .i64 b, .string c].toArray := by kernel_rfl
theorem bo16 : bodyB Tryd.prog 16 = true := by kernel_rfl
theorem bo17 : bodyB Tryd.prog 17 = true := by kernel_rfl
theorem bo18 : bodyB Tryd.prog 18 = true := by kernel_rfl
theorem bo24 : bodyB Tryd.prog 24 = true := by kernel_rfl
theorem bo25 : bodyB Tryd.prog 25 = true := by kernel_rfl
theorem row_at {B n : Nat} {row : Row} {xs : List Value} (h : row.ok B 6 (n + 1) xs) : ∃ g cap rr, row = .at g cap rr := by
  cases row with
  | nil => obtain ⟨h, _⟩ := h; cases h
  | «at» g cap rr => exact ⟨g, cap, rr, rfl⟩
end Go.Proofs.YthjddnmfpdcjnaaDoor.LawB
