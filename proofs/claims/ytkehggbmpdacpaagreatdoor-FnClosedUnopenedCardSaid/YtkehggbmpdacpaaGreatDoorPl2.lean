/- The laws of shortcodes in plain words: closing ones, inline ones, comments, indentations, two dividers. No program. -/
import Derived.Test.YtkehggbmpdacpaaGreatDoorKp15
set_option maxRecDepth 100000
set_option linter.unusedVariables false
set_option linter.unusedSimpArgs false
set_option linter.unusedSectionVars false
namespace Go.Proofs.YtkehggbmpdacpaaGreatDoor.Lex0
open Go.Proofs.YtkehggbmpdacpaaGreatDoor.Dec0 Go.Proofs.YtkehggbmpdacpaaGreatDoor.Txt0
theorem oget_oset (k j : ByteArray) (v : Bool) : ∀ l : List (ByteArray × Bool), oget k (oset j v l) = if j = k then v else oget k l := by
  intro l
  induction l with
  | nil =>
    unfold oset oget
    by_cases h : j = k
    · rw [if_pos h, if_pos h]
    · rw [if_neg h, if_neg h]; rfl
  | cons p l ih =>
    obtain ⟨a, u⟩ := p
    unfold oset
    by_cases ha : a = j
    · rw [if_pos ha]
      unfold oget
      by_cases h : j = k
      · rw [if_pos h, if_pos h]
      · rw [if_neg h, if_neg h, ha, if_neg h]
    · rw [if_neg ha]
      unfold oget
      rw [ih]
      by_cases h : a = k
      · rw [if_pos h, if_pos h, if_neg (fun e => ha (h.trans e.symm))]
      · rw [if_neg h, if_neg h]
structure ProseT (u : T) : Prop where
  asc : asc u
  q : ∀ c ∈ u, c ≠ 123 ∧ c ≠ 60
  last : ∃ d, u.getLast? = some d ∧ isBl d = false
theorem ba_ne {w : T} (h : w ≠ []) : ba w ≠ ⟨#[]⟩ := fun e => h (by
  have := congrArg (fun x : ByteArray => x.data.toList) e
  simpa [ba] using this)
section
variable {E : Env} {s : T} {dv : Bool} {b : Book} {c : Ctl}
theorem g_prose (hT : TrA E) {u r : T} (md : Bool) (hu : u = [] ∨ ProseT u) (ho : c.org = false) (hi : c.inl = true → inlOk E r c.name = true) (hc : [47, 42].isPrefixOf r = false) :
    Go E s dv .main b (u ++ (lf md ++ r)) c .inside ((if u = [] then b else b.put 18 u).left md) r { c with md := md, step := 0, par := 0 } := by
  rcases hu with h | h
  · subst h
    have := g_open (E := E) (s := s) (dv := dv) (b := b) (c := c) hT [] (r := r) md (by intro c hc; cases hc) (by intro c hc; cases hc) (by intro _ _ c hc; cases hc) hi hc
    rw [texts_nil] at this
    exact this
  · obtain ⟨d, h1, h2⟩ := h.last
    have hne : u ≠ [] := by rintro rfl; cases h1
    have := g_open (E := E) (s := s) (dv := dv) (b := b) (c := c) hT u (r := r) md h.asc (fun c hc => (h.q c hc).1) (fun _ _ c hc => by rw [ho]; exact (h.q c hc).2) hi hc
    rw [texts_solid b h1 h2] at this
    rw [if_neg hne]
    exact this
end
section
variable {E : Env} (hE : EA E) (hT : TrA E) (dv md : Bool) {w : T} (hw : NameT w)
include hE hT hw
end
section
variable {E : Env} {s : T} {dv : Bool}
end
structure TrI (E : Env) : Prop where
  solid : ∀ t, asc t → (∀ c, t.head? = some c → isSp c.toNat = false) → (∀ c, t.getLast? = some c → isSp c.toNat = false) → E.tr t = t
section
variable {E : Env} {s : T} {dv : Bool} {b : Book} {c : Ctl}
end
section
variable {E : Env} {s : T} {dv : Bool} {b : Book} {c : Ctl}
end
end Go.Proofs.YtkehggbmpdacpaaGreatDoor.Lex0
