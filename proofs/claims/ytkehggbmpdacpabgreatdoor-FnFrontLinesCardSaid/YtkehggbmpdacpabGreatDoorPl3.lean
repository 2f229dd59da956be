/- The laws of errors in plain words: the shape of items; pages that end with an error. No program. -/
import Derived.Test.YtkehggbmpdacpabGreatDoorPl2
set_option maxRecDepth 100000
set_option linter.unusedVariables false
set_option linter.unusedSimpArgs false
set_option linter.unusedSectionVars false
namespace Go.Proofs.YtkehggbmpdacpabGreatDoor.Lex0
open Go.Proofs.YtkehggbmpdacpabGreatDoor.Dec0 Go.Proofs.YtkehggbmpdacpabGreatDoor.Txt0
def shIt (text : T) (a : Nat) (last : Bool) (x : Ti) : Bool :=
  (decide (x.ty ≤ 1) == last) && (x.failed == (x.ty == 0)) && decide (x.ty ≤ 18) && (x.is == bitsT x.ty (!isSpT x.text)) &&
  (x.ty == 0 || (decide (a ≤ x.pos) && decide (x.pos ≤ text.length) && (x.ty == 15 || x.ty == 16 || x.text.isPrefixOf (text.drop x.pos)) && !(x.ty == 1 && (x.pos != text.length || x.text != [])) && !(x.ty == 17 && hasT [10] x.text)))
def shLoop (text : T) : List Ti → Nat → Nat → Option Nat
  | [], _, d => some d
  | x :: r, a, d => if shIt text a r.isEmpty x then shLoop text r (if x.ty = 0 then a else x.pos) (if x.ty = 2 then d + 1 else d) else none
theorem asc_nil : asc [] := by intro c hc; cases hc
theorem asc_cons {c : UInt8} {t : T} (h : c.toNat < 128) (ht : asc t) : asc (c :: t) := fun d hd => by
  rcases List.mem_cons.1 hd with rfl | hd
  · exact h
  · exact ht d hd
def BookOk (b : Book) : Prop := ∀ s, b.s <+: s → ∀ rest, rest ≠ [] → ∃ a, a ≤ b.s.length ∧ shLoop s (b.l ++ rest) 0 0 = shLoop s rest a 0
theorem BookOk.pass {b : Book} (h : BookOk b) (u : T) : BookOk (b.pass u) := fun s hs rest hr => by
  obtain ⟨a, h1, h2⟩ := h s ((List.prefix_append _ _).trans hs) rest hr
  exact ⟨a, by show a ≤ (b.s ++ u).length; rw [List.length_append]; omega, h2⟩
theorem BookOk.as_ {b : Book} (h : BookOk b) (ty : Nat) (u t : T) (h2 : ty = 15 ∨ ty = 16 ∨ (2 < ty ∧ ty ≤ 18 ∧ ty ≠ 17 ∧ u = t)) : BookOk (b.as_ ty u t) := fun s hs rest hr => by
  obtain ⟨a, h3, h4⟩ := h s ((List.prefix_append _ _).trans hs) ([tiOf ty b.s.length t] ++ rest) (by simp)
  refine ⟨b.s.length, by show _ ≤ (b.s ++ u).length; rw [List.length_append]; omega, ?_⟩
  show shLoop s ((b.l ++ [tiOf ty b.s.length t]) ++ rest) 0 0 = _
  rw [List.append_assoc, h4]
  have hs' : (b.s ++ u) <+: s := hs
  have hlen := hs'.length_le
  rw [List.length_append] at hlen
  have hne : rest.isEmpty = false := by cases rest with
    | nil => exact absurd rfl hr
    | cons _ _ => rfl
  have hpre : ty = 15 ∨ ty = 16 ∨ t.isPrefixOf (s.drop b.s.length) = true := by
    rcases h2 with h | h | ⟨_, _, _, h⟩
    · exact .inl h
    · exact .inr (.inl h)
    · right; right
      obtain ⟨r, hr⟩ := hs'
      rw [← hr, List.append_assoc, List.drop_left, h]
      exact pre_app _ _
  have hty : 2 < ty ∧ ty ≤ 18 ∧ ty ≠ 17 := by rcases h2 with h | h | ⟨h1, h2, h3, _⟩ <;> omega
  have hsh : shIt s a rest.isEmpty (tiOf ty b.s.length t) = true := by
    unfold shIt tiOf
    dsimp only
    rw [hne]
    have e1 : decide (ty ≤ 1) = false := decide_eq_false (by omega)
    have e2 : (ty == 0) = false := beq_eq_false_iff_ne.2 (by omega)
    have e3 : decide (ty ≤ 18) = true := decide_eq_true hty.2.1
    have e4 : (ty == 1) = false := beq_eq_false_iff_ne.2 (by omega)
    have e5 : (ty == 17) = false := beq_eq_false_iff_ne.2 hty.2.2
    have e6 : (ty == 15 || ty == 16 || t.isPrefixOf (s.drop b.s.length)) = true := by
      rcases hpre with h | h | h
      · rw [h]; rfl
      · rw [h]; rfl
      · rw [h]; simp
    rw [e1, e2, e3, e4, e5, e6, decide_eq_true h3, decide_eq_true (show b.s.length ≤ s.length by omega)]
    simp
  show (if shIt s a rest.isEmpty (tiOf ty b.s.length t) then shLoop s rest (if ty = 0 then a else b.s.length) (if ty = 2 then 0 + 1 else 0) else none) = _
  rw [if_pos hsh, if_neg (by omega), if_neg (by omega)]
theorem BookOk.put {b : Book} (h : BookOk b) (ty : Nat) (u : T) (h2 : 2 < ty ∧ ty ≤ 18 ∧ ty ≠ 17) : BookOk (b.put ty u) := h.as_ ty u u (.inr (.inr ⟨h2.1, h2.2.1, h2.2.2, rfl⟩))
theorem BookOk.left {b : Book} (h : BookOk b) (md : Bool) : BookOk (b.left md) := h.put _ _ (by cases md <;> decide)
theorem BookOk.right {b : Book} (h : BookOk b) (md : Bool) : BookOk (b.right md) := h.put _ _ (by cases md <;> decide)
section
variable {E : Env} {s : T} {dv : Bool} {b : Book} {c : Ctl} {x : Lx}
end
section
variable {E : Env} (hE : EA E) (hT : TrA E) (md : Bool) {w : T} (hw : NameT w)
include hE hT hw
end
end Go.Proofs.YtkehggbmpdacpabGreatDoor.Lex0
