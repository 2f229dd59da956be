/- The laws of shortcodes in plain words: closing ones, inline ones, comments, indentations, two dividers. No program. -/
import Derived.Test.YtkehggbmpdacpabGreatDoorKp15
set_option maxRecDepth 100000
set_option linter.unusedVariables false
set_option linter.unusedSimpArgs false
set_option linter.unusedSectionVars false
namespace Go.Proofs.YtkehggbmpdacpabGreatDoor.Lex0
open Go.Proofs.YtkehggbmpdacpabGreatDoor.Dec0 Go.Proofs.YtkehggbmpdacpabGreatDoor.Txt0
structure ProseT (u : T) : Prop where
  asc : asc u
  q : ∀ c ∈ u, c ≠ 123 ∧ c ≠ 60
  last : ∃ d, u.getLast? = some d ∧ isBl d = false
section
variable {E : Env} {s : T} {dv : Bool} {b : Book} {c : Ctl}
end
section
variable {E : Env} (hE : EA E) (hT : TrA E) (dv md : Bool) {w : T} (hw : NameT w)
include hE hT hw
end
section
variable {E : Env} {s : T} {dv : Bool}
end
structure TrI (E : Env) : Prop where
  solid : ∀ t, asc t → (∀ c, t.head? = some c → isSp c.toNat = false) → (∀ c, t.getLast? = some c → isSp c.toNat = false) → E.tr t = t
section
variable {E : Env} {s : T} {dv : Bool} {b : Book} {c : Ctl}
end
section
variable {E : Env} {s : T} {dv : Bool} {b : Book} {c : Ctl}
theorem texts_line {u v : T} (b : Book) (hv : ∀ c ∈ v, isBl c = true) (hv0 : v ≠ []) : texts b (u ++ 10 :: v) = (b.put 18 (u ++ [10])).put 17 v := by
  have hr : (u ++ 10 :: v).reverse = v.reverse ++ 10 :: u.reverse := by simp
  have hk : (((u ++ 10 :: v).reverse).takeWhile isBl).length = v.length := by
    rw [hr, tw_all (fun c hc => hv c (List.mem_reverse.1 hc)) (fun c hc => by cases hc; rfl), List.length_reverse]
  have hpos := List.length_pos_iff.2 hv0
  have hd : ((u ++ 10 :: v).reverse.drop v.length).head? = some 10 := by
    rw [hr, show v.length = v.reverse.length by simp, List.drop_left]; rfl
  have e1 : (u ++ 10 :: v).length - v.length = (u ++ [10]).length := by simp; omega
  have e2 : u ++ 10 :: v = (u ++ [10]) ++ v := by simp
  unfold texts Book.put Book.as_
  dsimp only
  rw [hk, if_neg (by simp), if_neg (by rintro ⟨_, h2⟩; rw [List.length_reverse, List.length_append, List.length_cons] at h2; omega), if_pos ⟨hpos, hd⟩, e1, e2, List.take_left, List.drop_left]
  congr 1
  · simp only [List.append_assoc]
  · rw [List.append_assoc, List.length_append («as» := b.s)]; rfl
theorem texts_blank {v : T} (b : Book) (hv : ∀ c ∈ v, isBl c = true) (hv0 : v ≠ []) : texts b v = b.put 17 v := by
  have hk : ((v.reverse).takeWhile isBl).length = v.length := by
    have := tw_all (v := v.reverse) (w := []) (fun c hc => hv c (List.mem_reverse.1 hc)) (by simp)
    rw [List.append_nil, List.length_reverse] at this
    exact this
  unfold texts Book.put Book.as_
  dsimp only
  rw [hk, if_neg hv0, if_pos ⟨by simpa using hv0, by simp⟩]
theorem bl_lt {c : UInt8} (h : isBl c = true) : c.toNat < 128 ∧ c ≠ 123 ∧ c ≠ 60 := by
  unfold isBl at h
  simp only [Bool.or_eq_true, beq_iff_eq] at h
  rcases h with (h | h) | h <;> (subst h; decide)
theorem law_indented (hE : EA E) (hT : TrA E) (dv md : Bool) {u v w : T} (hw : NameT w) (hu : u = [] ∨ ProseT u) (hv : ∀ c ∈ v, isBl c = true) (hv0 : v ≠ []) :
    Tells E ((if u = [] then v else u ++ 10 :: v) ++ (lf md ++ (w ++ 32 :: (rd md ++ [])))) false dv ((((((if u = [] then b0 else b0.put 18 (u ++ [10])).put 17 v).left md).put 13 w).pass [32]).right md).fin.l := by
  have h13 : ∀ (B : Book) (s r : T), Go E s dv .inside B (w ++ 32 :: r) { c0 with md := md, step := 0, par := 0 } .inside (B.put 13 w) (32 :: r) (ctlN { c0 with md := md, step := 0, par := 0 } false w) := fun B s r => g_name hE hT hw rfl rfl (.inl rfl)
  rcases hu with h | h
  · subst h
    rw [if_pos rfl, if_pos rfl]
    refine tells_of hT (Go.trans (c2 := { c0 with md := md, step := 0, par := 0 }) (b2 := (b0.put 17 v).left md) ?_ (Go.trans (h13 _ _ _) (g_close hT rfl)))
    have := g_open (E := E) (s := v ++ (lf md ++ (w ++ 32 :: (rd md ++ [])))) (dv := dv) (b := b0) (c := c0) hT v (r := w ++ 32 :: (rd md ++ [])) md (fun c hc => (bl_lt (hv c hc)).1) (fun c hc => (bl_lt (hv c hc)).2.1) (fun _ _ c hc => (bl_lt (hv c hc)).2.2) (fun h => by cases h) hw.cm
    rw [texts_blank b0 hv hv0] at this
    exact this
  · obtain ⟨d, h1, h2⟩ := h.last
    have hne : u ≠ [] := by rintro rfl; cases h1
    rw [if_neg hne, if_neg hne]
    have key : ∀ c ∈ u ++ 10 :: v, c.toNat < 128 ∧ c ≠ 123 ∧ c ≠ 60 := fun c hc => by
      rcases List.mem_append.1 hc with hc | hc
      · exact ⟨h.asc c hc, h.q c hc⟩
      · rcases List.mem_cons.1 hc with rfl | hc
        · decide
        · exact bl_lt (hv c hc)
    refine tells_of hT (Go.trans (c2 := { c0 with md := md, step := 0, par := 0 }) (b2 := ((b0.put 18 (u ++ [10])).put 17 v).left md) ?_ (Go.trans (h13 _ _ _) (g_close hT rfl)))
    have := g_open (E := E) (s := (u ++ 10 :: v) ++ (lf md ++ (w ++ 32 :: (rd md ++ [])))) (dv := dv) (b := b0) (c := c0) hT (u ++ 10 :: v) (r := w ++ 32 :: (rd md ++ [])) md (fun c hc => (key c hc).1) (fun c hc => (key c hc).2.1) (fun _ _ c hc => (key c hc).2.2) (fun h => by cases h) hw.cm
    rw [texts_line b0 hv hv0] at this
    exact this
end
end Go.Proofs.YtkehggbmpdacpabGreatDoor.Lex0
