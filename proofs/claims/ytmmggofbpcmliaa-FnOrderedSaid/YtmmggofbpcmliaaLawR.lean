/- For the laws of ordered maps: a known row of steps; what is told, read again. -/
import Derived.Test.YtmmggofbpcmliaaLawQ
set_option linter.unusedVariables false
namespace Go.Proofs.Ytmmggofbpcmliaa.OrdW
open Go.Rx hiding bt
open Go.RowKit
def scells (l : List OStep) : List Value := l.flatMap OStep.cells
theorem scells_get : ∀ (l : List OStep) (j : Nat) (s : OStep) (k : Nat) (v : Value), l[j]? = some s → s.cells[k]? = some v → (scells l)[j * 3 + k]? = some v := by
  intro l
  induction l with
  | nil => intro j s k v h; simp at h
  | cons y l ih =>
    intro j s k v h hk
    have hl : y.cells.length = 3 := rfl
    have hk3 : k < 3 := by
      have := (List.getElem?_eq_some_iff.1 hk).1
      simpa [OStep.cells] using this
    unfold scells at ih ⊢
    rw [List.flatMap_cons]
    cases j with
    | zero =>
      simp only [List.getElem?_cons_zero, Option.some.injEq] at h
      subst h
      rw [List.getElem?_append_left (by omega)]
      simpa using hk
    | succ j =>
      simp only [List.getElem?_cons_succ] at h
      rw [List.getElem?_append_right (by omega), hl, show (j + 1) * 3 + k - 3 = j * 3 + k by omega]
      exact ih j s k v h hk
/-- A row of steps that is known. -/
theorem stepAt_of {m : Mem} {w : World} {r : Row} {l : List OStep} {B : Nat} (hw : Has m w) (hm : ∀ x ∈ r.mem (scells l) 53, x ∈ m) (hok : r.ok B 3 l.length (scells l)) : ∃ A c, r.val l.length = .slice A l.length c ∧ StepAt w A l := by
  obtain ⟨A, c, h1, h2⟩ := RowAt.of (S := fun _ => False) (e := 53) hw hm hok (fun b _ h => h)
  refine ⟨A, c, h1, fun j s hs => ?_⟩
  obtain ⟨ad, e, _, _⟩ := h2 (j * 3 + 0) _ (scells_get l j s 0 _ hs rfl)
  refine ⟨ad, e, fun k v hk => ?_⟩
  obtain ⟨ad', e', _, h3⟩ := h2 (j * 3 + k) v (scells_get l j s k v hs hk)
  rw [e] at e'
  cases e'
  rw [add_add]
  exact h3
end Go.Proofs.Ytmmggofbpcmliaa.OrdW
