/- Slices of steps (structs of whole numbers and texts) that come in: what they hold. -/
import Derived.Test.YtmmggofbpcmliaaRow0
import Derived.Test.YtmmggofbpcmliaaLawK
import Derived.Deep.Slices
import Derived.Deep.Fields
import Derived.ChangeSame
set_option linter.unusedVariables false
namespace Go.Proofs.Ytmmggofbpcmliaa.RowO
open Go.RowKit Go.ChangeShapes Go.WideShapes Go.Deep Go.Proofs.YtmmggofbpcmliaaW.PrintWords Go.Proofs.Ytmmggofbpcmliaa.OrdW
section
variable {H : Type} {enc : TypeId × Value → H} {P : Program} {w : World} {base : Nat} {spare : Nat → Bool} {held : Bool}
theorem open_slice_fields {t e : TypeId} {fs : Array Field} {fuel : Nat} {cs : List Value} {x : DataW H × List MemPlace} (ht : P.underlying t = some (.slice e)) (he : P.underlying e = some (.struct fs))
    (hone : oneCellFields P fs = true) (hC : P.cellsOf e = fs.size) (h : DataW.trod enc P w base spare held fuel t cs = some x) :
    cs = [.slice none 0 0] ∨
    ∃ (a : Addr) (len cap m : Nat), cs = [.slice (some a) len cap] ∧ len ≤ cap ∧ cap ≤ maxLen ∧ m = (if spare a.block then cap else len) ∧
      ∀ i, i < m → ∃ (ys : List (DataW H × List MemPlace)) (n : Nat), ∀ (j : Nat) (f : Field), fs[j]? = some f → ∃ (v : Value) (y : DataW H × List MemPlace), w.cell? (a.add (i * fs.size + j)) = some v ∧ DataW.trod enc P w base spare held n f.type [v] = some y := by
  rcases open_slice ht h with h0 | ⟨a, len, cap, m, n, D, Pl, hcs, hb, hl, hm, hmm, hx, hi⟩
  · exact .inl h0.1
  · refine .inr ⟨a, len, cap, m, hcs, hl, hm, hmm, fun i him => ?_⟩
    obtain ⟨cs', hc, ht'⟩ := hi i him
    rw [hC] at hc
    obtain ⟨ys, n', hn', hy, hlen, hyl, hf⟩ := DataW.trod_struct he ht'
    obtain ⟨_, hcl, hat⟩ := World.cells?_some hc
    refine ⟨ys, n', fun j f hj => ?_⟩
    obtain ⟨ho, hk⟩ := hone_of hone j f hj
    have hjl : j < fs.size := (Array.getElem?_eq_some_iff.1 hj).1
    have hcell := hat j hjl
    have hv : cs'[j]? = some (cs'[j]'(by omega)) := List.getElem?_eq_getElem (by omega)
    have h1 := hf j f hj
    rw [ho, hk] at h1
    have hone' : (cs'.drop j).take 1 = [cs'[j]'(by omega)] := by
      rw [List.drop_eq_getElem_cons (by omega)]
      rfl
    rw [hone'] at h1
    have hys : ys[j]? = some (ys[j]'(by omega)) := List.getElem?_eq_getElem (by omega)
    refine ⟨_, _, ?_, h1.trans hys⟩
    rw [← Go.Deep.add_add, hcell, hv]
end
section
variable {H : Type} {enc : TypeId × Value → H} {P : Program} {W : World}
/-- Steps of an ordered map. -/
theorem open_osteps {t e : TypeId} {a : Option Addr} {len cap : Nat} {d : DataW H} {ps : List MemPlace} {f0 f1 f2 : Field}
    (hu : P.underlying t = some (.slice e)) (he : P.underlying e = some (.struct #[f0, f1, f2])) (hone : oneCellFields P #[f0, f1, f2] = true) (hC : P.cellsOf e = 3) (h0 : P.underlying f0.type = some (.int .i64)) (h1 : P.underlying f1.type = some .string) (h2 : P.underlying f2.type = some (.int .i64))
    (h : DataW.Trod enc P W 0 (fun _ => true) true t (.slice a len cap) d ps) :
    ∃ l : List OStep, l.length = len ∧ len ≤ cap ∧ cap ≤ 9223372036854775807 ∧ StepAt W a l := by
  obtain ⟨fuel, hf⟩ := h
  rcases open_slice_fields hu he hone hC hf with hcs | ⟨x, l, c, m, hcs, hl, hm, hmm, hi⟩
  · simp [Value.cells] at hcs
    obtain ⟨rfl, rfl, rfl⟩ := hcs
    exact ⟨[], rfl, Nat.le_refl _, by omega, fun j s hs => by simp at hs⟩
  · simp [Value.cells] at hcs
    obtain ⟨rfl, rfl, rfl⟩ := hcs
    simp only [if_true] at hmm
    subst hmm
    unfold maxLen at hm
    have hx : ∀ i, ∃ y : OStep, i < len → W.cell? (x.add (i * 3 + 0)) = some (.int .i64 y.op) ∧ W.cell? (x.add (i * 3 + 1)) = some (.string y.key) ∧ W.cell? (x.add (i * 3 + 2)) = some (.int .i64 y.val) := by
      intro i
      by_cases hlt : i < len
      · obtain ⟨ys, n, hj⟩ := hi i (by omega)
        obtain ⟨v0, y0, c0, t0⟩ := hj 0 f0 rfl
        obtain ⟨v1, y1, c1, t1⟩ := hj 1 f1 rfl
        obtain ⟨v2, y2, c2, t2⟩ := hj 2 f2 rfl
        obtain ⟨z0, e0, _⟩ := DataW.trod_int h0 t0
        obtain ⟨z1, e1, _⟩ := DataW.trod_string h1 t1
        obtain ⟨z2, e2, _⟩ := DataW.trod_int h2 t2
        simp at e0 e1 e2
        subst e0 e1 e2
        exact ⟨⟨z0, z1, z2⟩, fun _ => ⟨c0, c1, c2⟩⟩
      · exact ⟨⟨0, ⟨#[]⟩, 0⟩, fun h => absurd h hlt⟩
    obtain ⟨g, hg⟩ := Classical.axiomOfChoice hx
    refine ⟨(List.range len).map g, by simp, hl, by omega, fun j p hp => ⟨x, rfl, fun i u hu => ?_⟩⟩
    have hjl : j < len := by have := (List.getElem?_eq_some_iff.1 hp).1; simpa using this
    have hpe : p = g j := by
      rw [List.getElem?_map, List.getElem?_range hjl] at hp
      exact (Option.some.inj hp).symm
    subst hpe
    obtain ⟨q0, q1, q2⟩ := hg j hjl
    have hi3 : i < 3 := by have := (List.getElem?_eq_some_iff.1 hu).1; simpa [OStep.cells] using this
    rw [Rx.add_add]
    match i, hi3 with
    | 0, _ => cases hu; exact q0
    | 1, _ => cases hu; exact q1
    | 2, _ => cases hu; exact q2
/-- Steps of a queue or a stack, as a list of pairs. -/
theorem open_qsteps {t e : TypeId} {a : Option Addr} {len cap : Nat} {d : DataW H} {ps : List MemPlace} {f0 f1 : Field}
    (hu : P.underlying t = some (.slice e)) (he : P.underlying e = some (.struct #[f0, f1])) (hone : oneCellFields P #[f0, f1] = true) (hC : P.cellsOf e = 2) (h0 : P.underlying f0.type = some (.int .i64)) (h1 : P.underlying f1.type = some .string)
    (h : DataW.Trod enc P W 0 (fun _ => true) true t (.slice a len cap) d ps) :
    ∃ l : List (Int × ByteArray), l.length = len ∧ len ≤ cap ∧ cap ≤ 9223372036854775807 ∧ ∀ (j : Nat) s, l[j]? = some s → ∃ ad, a = some ad ∧ ∀ (k : Nat) v, [Value.int .i64 s.1, .string s.2][k]? = some v → W.cell? ((ad.add (j * 2)).add k) = some v := by
  obtain ⟨fuel, hf⟩ := h
  rcases open_slice_fields hu he hone hC hf with hcs | ⟨x, l, c, m, hcs, hl, hm, hmm, hi⟩
  · simp [Value.cells] at hcs
    obtain ⟨rfl, rfl, rfl⟩ := hcs
    exact ⟨[], rfl, Nat.le_refl _, by omega, fun j s hs => by simp at hs⟩
  · simp [Value.cells] at hcs
    obtain ⟨rfl, rfl, rfl⟩ := hcs
    simp only [if_true] at hmm
    subst hmm
    unfold maxLen at hm
    have hx : ∀ i, ∃ y : Int × ByteArray, i < len → W.cell? (x.add (i * 2 + 0)) = some (.int .i64 y.1) ∧ W.cell? (x.add (i * 2 + 1)) = some (.string y.2) := by
      intro i
      by_cases hlt : i < len
      · obtain ⟨ys, n, hj⟩ := hi i (by omega)
        obtain ⟨v0, y0, c0, t0⟩ := hj 0 f0 rfl
        obtain ⟨v1, y1, c1, t1⟩ := hj 1 f1 rfl
        obtain ⟨z0, e0, _⟩ := DataW.trod_int h0 t0
        obtain ⟨z1, e1, _⟩ := DataW.trod_string h1 t1
        simp at e0 e1
        subst e0 e1
        exact ⟨(z0, z1), fun _ => ⟨c0, c1⟩⟩
      · exact ⟨(0, ⟨#[]⟩), fun h => absurd h hlt⟩
    obtain ⟨g, hg⟩ := Classical.axiomOfChoice hx
    refine ⟨(List.range len).map g, by simp, hl, by omega, fun j p hp => ⟨x, rfl, fun i u hu => ?_⟩⟩
    have hjl : j < len := by have := (List.getElem?_eq_some_iff.1 hp).1; simpa using this
    have hpe : p = g j := by
      rw [List.getElem?_map, List.getElem?_range hjl] at hp
      exact (Option.some.inj hp).symm
    subst hpe
    obtain ⟨q0, q1⟩ := hg j hjl
    have hi3 : i < 2 := by have := (List.getElem?_eq_some_iff.1 hu).1; simpa using this
    rw [Rx.add_add]
    match i, hi3 with
    | 0, _ => cases hu; exact q0
    | 1, _ => cases hu; exact q1
end
end Go.Proofs.Ytmmggofbpcmliaa.RowO
