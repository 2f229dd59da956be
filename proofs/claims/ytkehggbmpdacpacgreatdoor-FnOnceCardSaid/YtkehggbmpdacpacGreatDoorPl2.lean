/- The laws of shortcodes in plain words: closing ones, inline ones, comments, indentations, two dividers. No program. -/
import Derived.Test.YtkehggbmpdacpacGreatDoorKp15
set_option maxRecDepth 100000
set_option linter.unusedVariables false
set_option linter.unusedSimpArgs false
set_option linter.unusedSectionVars false
namespace Go.Proofs.YtkehggbmpdacpacGreatDoor.Lex0
open Go.Proofs.YtkehggbmpdacpacGreatDoor.Dec0 Go.Proofs.YtkehggbmpdacpacGreatDoor.Txt0
structure ProseT (u : T) : Prop where
  asc : asc u
  q : ∀ c ∈ u, c ≠ 123 ∧ c ≠ 60
  last : ∃ d, u.getLast? = some d ∧ isBl d = false
section
variable {E : Env} {s : T} {dv : Bool} {b : Book} {c : Ctl}
theorem g_prose (hT : TrA E) {u r : T} (md : Bool) (hu : u = [] ∨ ProseT u) (ho : c.org = false) (hi : c.inl = true → inlOk E r c.name = true) (hc : [47, 42].isPrefixOf r = false) :
    Go E s dv .main b (u ++ (lf md ++ r)) c .inside ((if u = [] then b else b.put 18 u).left md) r { c with md := md, step := 0, par := 0 } := by
  rcases hu with h | h
  · subst h
    have := g_open (E := E) (s := s) (dv := dv) (b := b) (c := c) hT [] (r := r) md (by intro c hc; cases hc) (by intro c hc; cases hc) (by intro _ _ c hc; cases hc) hi hc
    rw [texts_nil] at this
    exact this
  · obtain ⟨d, h1, h2⟩ := h.last
    have hne : u ≠ [] := by rintro rfl; cases h1
    have := g_open (E := E) (s := s) (dv := dv) (b := b) (c := c) hT u (r := r) md h.asc (fun c hc => (h.q c hc).1) (fun _ _ c hc => by rw [ho]; exact (h.q c hc).2) hi hc
    rw [texts_solid b h1 h2] at this
    rw [if_neg hne]
    exact this
end
section
variable {E : Env} (hE : EA E) (hT : TrA E) (dv md : Bool) {w : T} (hw : NameT w)
include hE hT hw
end
section
variable {E : Env} {s : T} {dv : Bool}
end
structure TrI (E : Env) : Prop where
  solid : ∀ t, asc t → (∀ c, t.head? = some c → isSp c.toNat = false) → (∀ c, t.getLast? = some c → isSp c.toNat = false) → E.tr t = t
section
variable {E : Env} {s : T} {dv : Bool} {b : Book} {c : Ctl}
end
section
variable {E : Env} {s : T} {dv : Bool} {b : Book} {c : Ctl}
theorem g_div (hT : TrA E) {u v r : T} (ha : asc u) (hf : ∀ x, Sim E s b (u ++ (divr c.org ++ (v ++ r))) c x → found s dv x = some u.length) (ho : dv = true) (hc : c.chk = false) (hv : ∀ c ∈ v, isSp c.toNat = true) (hr : ∀ c, r.head? = some c → isSp c.toNat = false) :
    Go E s dv .main b (u ++ (divr c.org ++ (v ++ r))) c .main ((texts b u).put 2 (divr c.org ++ v)) r { c with chk := true } := fun x hx => by
  have hcx := hx.c
  subst hcx
  have hd2 : s.drop (x.pos + u.length) = divr x.org ++ (v ++ r) := drop_more hx.drop
  have hon : dvOn dv x = true := by unfold dvOn; rw [ho, show x.chk = false from hc]; rfl
  have hm : Sim E s (texts b u) ((divr x.org ++ v) ++ r) (ctl x) { x with pos := x.pos + u.length, start := x.pos + u.length, items := x.items ++ opn s x.start (x.pos + u.length) } :=
    ⟨by show s = (b.s ++ u) ++ _; rw [List.append_assoc, List.append_assoc]; exact hx.e, by show _ = (b.s ++ u).length; rw [List.length_append, ← hx.p], rfl, told_opn hT hx ha, rfl⟩
  refine ⟨_, .one (go_div (hf x hx) (Nat.le_of_eq hx.st) hd2 hon hv hr), Sim.put hm (by rw [List.length_append]; dsimp only [ctl]; omega) rfl _ rfl ?_ rfl⟩
  refine told_mk hT ?_ ?_
  · have := cut_at (u := divr x.org ++ v) (r := r) (p := x.pos + u.length) (by rw [List.append_assoc]; exact hd2)
    rw [List.length_append] at this
    rw [show x.pos + u.length + (divr x.org).length + v.length = x.pos + u.length + ((divr x.org).length + v.length) by omega]
    exact this
  · refine asc_app ?_ (fun c hc => isSp_lt (hv c hc))
    show asc (divr x.org)
    generalize x.org = o
    cases o <;> (intro c hc; revert c; decide)
theorem law_once (hT : TrA E) {u v w : T} (hu : ProseT u) (hv : ProseT v) (hw : ProseT w) (h0 : ∀ c, v.head? = some c → isSp c.toNat = false) : Tells E (u ++ (divr false ++ ([] ++ (v ++ (divr false ++ w))))) false true ((((b0.put 18 u).put 2 (divr false)).put 18 (v ++ divr false ++ w)).fin).l := by
  generalize hs : u ++ (divr false ++ ([] ++ (v ++ (divr false ++ w)))) = s
  have hno : ∀ c ∈ divr false, c ≠ 123 ∧ c.toNat < 128 := by decide
  obtain ⟨d, h1, h2⟩ := hu.last
  have hune : u ≠ [] := by rintro rfl; cases h1
  obtain ⟨d2, h3, h4⟩ := hv.last
  have hvne : v ≠ [] := by rintro rfl; cases h3
  obtain ⟨d3, h5, h6⟩ := hw.last
  have hl : ∀ t : T, (∀ c ∈ t, c ≠ 123) → idx lsc t = none := fun t ht => by
    have := idx_skip (k := 123) (p := [123]) t (v := []) ht
    rw [List.append_nil, idx_nil (by simp)] at this
    exact this
  have hall : ∀ c ∈ v ++ (divr false ++ w), c ≠ 123 := fun c hc => by
    rcases List.mem_append.1 hc with hc | hc
    · exact (hv.q c hc).1
    · rcases List.mem_append.1 hc with hc | hc
      · exact (hno c hc).1
      · exact (hw.q c hc).1
  have hall0 : ∀ c ∈ u ++ (divr false ++ ([] ++ (v ++ (divr false ++ w)))), c ≠ 123 := fun c hc => by
    rcases List.mem_append.1 hc with hc | hc
    · exact (hu.q c hc).1
    · rcases List.mem_append.1 hc with hc | hc
      · exact (hno c hc).1
      · exact hall c hc
  have g1 : Go E s true .main b0 (u ++ (divr false ++ ([] ++ (v ++ (divr false ++ w))))) c0 .main ((texts b0 u).put 2 (divr false ++ [])) (v ++ (divr false ++ w)) { c0 with chk := true } := by
    refine g_div (c := c0) hT hu.asc (fun x hx => ?_) rfl rfl (by intro c hc; cases hc) (fun c hc => h0 c (by cases v with | nil => exact absurd rfl hvne | cons a v => exact hc))
    have hcx := hx.c
    have hox : x.org = false := congrArg Ctl.org hcx
    have hchk : x.chk = false := congrArg Ctl.chk hcx
    refine found_div (u := u) (r := [] ++ (v ++ (divr false ++ w))) (by rw [hox]; exact hx.drop) (.inl (by rw [hx.drop]; exact hl _ hall0)) ?_ (by unfold dvOn; rw [hchk]; rfl)
    have hh := idx_here (p := divr false) (r := [] ++ (v ++ (divr false ++ w))) (divr_ne _)
    have hk := idx_skip (k := 60) (p := divr1 false) u (v := divr false ++ ([] ++ (v ++ (divr false ++ w)))) (fun c hc => (hu.q c hc).2)
    rw [show (60 :: divr1 false : T) = divr false from rfl, hh] at hk
    rw [hox, hx.drop]
    refine hk.trans ?_
    simp
  rw [texts_solid b0 h1 h2, List.append_nil] at g1
  rw [hs] at g1
  obtain ⟨x, k1, k2⟩ := g1 lx0 (sim0 E s)
  have hasc : asc (v ++ (divr false ++ w)) := asc_app hv.asc (asc_app (fun c hc => (hno c hc).2) hw.asc)
  obtain ⟨k, k3, k4⟩ := g_stop (dv := true) hT _ k2 hasc (.inr (found_none k2.drop (hl _ hall) (fun h => by
    have hchk : x.chk = true := congrArg Ctl.chk k2.c
    unfold dvOn at h
    rw [hchk] at h
    cases h)))
  rw [texts_solid (u := v ++ (divr false ++ w)) (d := d3) _ (by rw [List.getLast?_append, List.getLast?_append, h5]; rfl) h6, ← List.append_assoc] at k4
  exact ⟨k, k1.runs k3, k4⟩
end
end Go.Proofs.YtkehggbmpdacpacGreatDoor.Lex0
