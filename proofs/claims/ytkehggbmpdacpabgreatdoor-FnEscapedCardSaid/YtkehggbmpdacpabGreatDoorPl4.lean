/- The laws of pages in plain words: no dividers, no front matter, front matter of braces, of lines, between fences; what stands ahead. No program. -/
import Derived.Test.YtkehggbmpdacpabGreatDoorPl3
set_option maxRecDepth 100000
set_option linter.unusedVariables false
set_option linter.unusedSimpArgs false
set_option linter.unusedSectionVars false
namespace Go.Proofs.YtkehggbmpdacpabGreatDoor.Lex0
open Go.Proofs.YtkehggbmpdacpabGreatDoor.Dec0 Go.Proofs.YtkehggbmpdacpabGreatDoor.Txt0
section
variable {E : Env} {s : T} (h0 : idx (divr false) s = none) (h1 : idx (divr true) s = none)
include h0 h1
end
theorem json_c {c : UInt8} {r : T} {n : Nat} {q : Bool} {lv : Nat} (h : c ≠ 92) : jsonL (c :: r) n q lv = (if c = 123 then jsonL r (n + 1) q (if q then lv else lv + 1)
    else if c = 125 then (if q then jsonL r (n + 1) q lv else if lv ≤ 1 then some (n + 1) else jsonL r (n + 1) q (lv - 1))
    else if c = 34 then jsonL r (n + 1) (!q) lv
    else jsonL r (n + 1) q lv) := by
  rw [jsonL]
  intro _ _ h1
  exact absurd h1 h
theorem json_in : ∀ (x : T) {r : T} (n : Nat) (lv : Nat), (∀ c ∈ x, c ≠ 92 ∧ c ≠ 34) → jsonL (x ++ r) n true lv = jsonL r (n + x.length) true lv := by
  intro x
  induction x with
  | nil => intro r n lv _; rfl
  | cons c x ih =>
    intro r n lv h
    have hc := h c (List.mem_cons_self ..)
    have h' := ih (r := r) (n + 1) lv (fun c hc => h c (List.mem_cons_of_mem _ hc))
    show jsonL (c :: (x ++ r)) n true lv = _
    rw [json_c hc.1, if_pos rfl, if_pos rfl, if_neg hc.2, h', List.length_cons, show n + 1 + x.length = n + (x.length + 1) by omega]
    simp only [ite_self]
theorem asc_flat {f : T → T} {l : List T} (h : ∀ x ∈ l, asc (f x)) : asc (l.flatMap f) := fun c hc => by
  obtain ⟨x, hx, hc⟩ := List.mem_flatMap.1 hc
  exact h x hx c hc
section
variable {E : Env} (hal : E.al (-1) = false) (hT : TrA E)
include hal hT
end
end Go.Proofs.YtkehggbmpdacpabGreatDoor.Lex0
