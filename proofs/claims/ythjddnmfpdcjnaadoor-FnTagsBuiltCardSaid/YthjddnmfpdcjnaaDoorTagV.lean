/- The scanner of tags in a text that stands in another one: it tells the same, moved; and what it tells of any text: tags in order, begun by <. No program. -/
import Derived.Test.YthjddnmfpdcjnaaDoorLawC
set_option linter.unusedVariables false
namespace Go.Proofs.YthjddnmfpdcjnaaDoor.TagV
open Go.RowKit Go.Proofs.YthjddnmfpdcjnaaDoorW.PrintWords Go.Proofs.YthjddnmfpdcjnaaDoor.Lib0 Go.Proofs.YthjddnmfpdcjnaaDoor.Tag0 Go.Proofs.YthjddnmfpdcjnaaDoor.NextW Go.Proofs.YthjddnmfpdcjnaaDoor.TxtA Go.Proofs.YthjddnmfpdcjnaaDoor.LawA Go.Proofs.YthjddnmfpdcjnaaDoor.LawC

/-- The first lim bytes of s stand in s' from d on. -/
structure Vw (s s' : ByteArray) (lim d : Nat) : Prop where
  le : lim ≤ s.size
  le' : lim + d ≤ s'.size
  eq : ∀ j : Nat, j < lim → bt s' ((j + d : Nat) : Int) = bt s (j : Nat)
variable {s s' : ByteArray} {lim d : Nat} (h : Vw s s' lim d)
include h
theorem Vw.find (c : Int) (p : Nat) : findB s' (lim + d) c (p + d) = findB s lim c p + d := by
  fun_induction findB s lim c p with
  | case1 p h1 h2 => rw [findB, if_pos (by omega), h.eq p h1, if_pos h2]
  | case2 p h1 h2 ih => rw [findB, if_pos (by omega), h.eq p h1, if_neg h2, show p + d + 1 = p + 1 + d by omega]; exact ih
  | case3 p h1 => rw [findB, if_neg (by omega)]
theorem Vw.nameE (p : Nat) : nameE s' (lim + d) (p + d) = Tag0.nameE s lim p + d := by
  fun_induction Tag0.nameE s lim p with
  | case1 p h1 h2 => rw [Tag0.nameE, if_pos (by omega), h.eq p h1, if_pos h2]
  | case2 p h1 h2 ih => rw [Tag0.nameE, if_pos (by omega), h.eq p h1, if_neg h2, show p + d + 1 = p + 1 + d by omega]; exact ih
  | case3 p h1 => rw [Tag0.nameE, if_neg (by omega)]
theorem Vw.blanksE (p : Nat) : blanksE s' (lim + d) (p + d) = Tag0.blanksE s lim p + d := by
  fun_induction Tag0.blanksE s lim p with
  | case1 p h1 h2 ih => rw [Tag0.blanksE, if_pos (by omega), h.eq p h1, if_pos h2, show p + d + 1 = p + 1 + d by omega]; exact ih
  | case2 p h1 h2 => rw [Tag0.blanksE, if_pos (by omega), h.eq p h1, if_neg h2]
  | case3 p h1 => rw [Tag0.blanksE, if_neg (by omega)]
theorem Vw.valueE (p : Nat) : valueE s' (lim + d) (p + d) = Tag0.valueE s lim p + d := by
  unfold Tag0.valueE
  by_cases hp : p < lim
  · rw [if_pos (show p + d < lim + d by omega), if_pos hp, h.eq p hp, show p + d + 1 = p + 1 + d by omega, h.find]
    by_cases hc : bt s (p : Nat) = 34 ∨ bt s (p : Nat) = 39
    · rw [if_pos hc, if_pos hc]
      by_cases he : findB s lim (bt s (p : Nat)) (p + 1) = lim
      · rw [if_pos he, if_pos (by omega)]
      · rw [if_neg he, if_neg (by omega)]; omega
    · rw [if_neg hc, if_neg hc]
  · rw [if_neg (by omega), if_neg hp]
theorem Vw.attrs (st : Bool) (p : Nat) (self : Bool) : attrs s' (lim + d) st (p + d) self = ((Tag0.attrs s lim st p self).1 + d, (Tag0.attrs s lim st p self).2) := by
  fun_induction Tag0.attrs s lim st p self with
  | case1 p self h1 h2 => rw [Tag0.attrs, dif_pos (by omega), h.eq p h1, if_pos h2]; simp; omega
  | case2 p self h1 h2 h3 ih =>
    rw [Tag0.attrs, dif_pos (by omega), h.eq p h1, if_neg h2, if_pos h3, show p + d + 1 = p + 1 + d by omega]
    have e : (st && decide (p + 1 + d < lim + d) && (bt s' ((p + 1 + d : Nat) : Int) == 62)) = (st && decide (p + 1 < lim) && (bt s ((p + 1 : Nat) : Int) == 62)) := by
      by_cases hl : p + 1 < lim
      · rw [h.eq _ hl]; simp [hl]
      · simp [hl]
    rw [e]; exact ih
  | case3 p self h1 h2 h3 h4 ih =>
    rw [Tag0.attrs, dif_pos (by omega), h.eq p h1, if_neg h2, if_neg h3, if_pos h4, show p + d + 1 = p + 1 + d by omega, h.blanksE, h.valueE]; exact ih
  | case4 p self h1 h2 h3 h4 ih => rw [Tag0.attrs, dif_pos (by omega), h.eq p h1, if_neg h2, if_neg h3, if_neg h4, show p + d + 1 = p + 1 + d by omega]; exact ih
  | case5 p self h1 => rw [Tag0.attrs, dif_neg (by omega)]
theorem Vw.ext (p q : Nat) (hq : q ≤ lim) : s'.extract (p + d) (q + d) = s.extract p q := by
  have h1 := h.le
  have h2 := h.le'
  refine ext_bt (by simp; omega) fun j hj => ?_
  have hj2 : j < q - p := by simp at hj; omega
  rw [bt_extract _ _ _ _ (by omega) (by omega) (by omega), bt_extract _ _ _ _ (by omega) (by omega) (by omega), ← Int.natCast_add, ← Int.natCast_add, ← h.eq (p + j) (by omega)]
  congr 2; omega
theorem Vw.sub (sep : ByteArray) (p : Nat) : subAt s' (lim + d) sep (p + d) = (subAt s lim sep p).map (· + d) := by
  have h1 := h.le
  fun_induction subAt s lim sep p with
  | case1 p h2 h3 => rw [subAt, if_pos (by omega), show p + d + sep.size = p + sep.size + d by omega, h.ext _ _ h2, if_pos h3]; rfl
  | case2 p h2 h3 ih => rw [subAt, if_pos (by omega), show p + d + sep.size = p + sep.size + d by omega, h.ext _ _ h2, if_neg h3, show p + d + 1 = p + 1 + d by omega]; exact ih
  | case3 p h2 => rw [subAt, if_neg (by omega)]; rfl
theorem Vw.skip (sep : ByteArray) (p : Nat) : skipE s' (lim + d) sep (p + d) = skipE s lim sep p + d := by
  unfold skipE
  rw [h.sub]
  cases subAt s lim sep p with
  | none => rfl
  | some q => show q + d + sep.size = q + sep.size + d; omega
/-- A tag, moved. -/
def mvT (d : Nat) (t : Tok) : Tok := ⟨t.ty, t.name, t.self, if t.ok = true then t.start + d else t.start, t.ok, t.pos + d⟩
omit h in
theorem Vw.other (d : Nat) (i q : Nat) : Tag0.other (i + d) (q + d) = (Tag0.other i q).map (mvT d) := by simp [Tag0.other, mvT]
theorem Vw.body (lower : ByteArray → Option ByteArray) (st : Bool) (i p : Nat) : body lower s' (lim + d) st (i + d) (p + d) = (Tag0.body lower s lim st i p).map (mvT d) := by
  unfold Tag0.body
  by_cases hp : p ≤ lim
  · rw [h.nameE, h.ext _ _ (nameE_ge s lim p hp).2]
    cases lower (s.extract p (Tag0.nameE s lim p)) with
    | none => rfl
    | some n =>
      simp only [Option.bind_some, Option.map_some, h.attrs, mvT, if_true]
      rfl
  · have e1 : Tag0.nameE s lim p = p := by rw [Tag0.nameE, if_neg (by omega)]
    have e2 : Tag0.nameE s' (lim + d) (p + d) = p + d := by rw [Tag0.nameE, if_neg (by omega)]
    have e3 : s.extract p p = ⟨#[]⟩ := by refine ext_bt (by simp; rfl) fun j hj => ?_; simp at hj
    have e4 : s'.extract (p + d) (p + d) = ⟨#[]⟩ := by refine ext_bt (by simp; rfl) fun j hj => ?_; simp at hj
    rw [e1, e2, e3, e4]
    have e5 : Tag0.attrs s lim st p false = (p, false) := by rw [Tag0.attrs, dif_neg (by omega)]
    have e6 : Tag0.attrs s' (lim + d) st (p + d) false = (p + d, false) := by rw [Tag0.attrs, dif_neg (by omega)]
    rw [e5, e6]
    cases lower ⟨#[]⟩ with
    | none => rfl
    | some n => simp [mvT]
theorem Vw.after (lower : ByteArray → Option ByteArray) (i : Nat) (hi : i + 1 < lim) : afterLt lower s' (lim + d) (i + d) = (afterLt lower s lim i).map (·.map (mvT d)) := by
  unfold afterLt
  have e1 : bt s' ((i + d + 1 : Nat) : Int) = bt s ((i + 1 : Nat) : Int) := by rw [show i + d + 1 = i + 1 + d by omega, h.eq _ hi]
  rw [e1, show i + d + 1 = i + 1 + d by omega, show i + d + 4 = i + 4 + d by omega, show i + d + 2 = i + 2 + d by omega, h.ext _ _ (Nat.le_refl _)]
  have e2 : (i + 2 + d < lim + d ∧ ltr (bt s' ((i + 2 + d : Nat) : Int)) = false) ↔ (i + 2 < lim ∧ ltr (bt s ((i + 2 : Nat) : Int)) = false) := by
    constructor
    · rintro ⟨a, b⟩; exact ⟨by omega, by rwa [h.eq _ (by omega)] at b⟩
    · rintro ⟨a, b⟩; exact ⟨by omega, by rwa [h.eq _ a]⟩
  simp only [e2, h.skip, Vw.other, h.body]
  by_cases c1 : bt s ((i + 1 : Nat) : Int) = 33 ∨ bt s ((i + 1 : Nat) : Int) = 63
  · rw [if_pos c1, if_pos c1]
    split
    · simp [Option.map_map, Function.comp_def]
    · split <;> simp [Option.map_map, Function.comp_def]
  · rw [if_neg c1, if_neg c1]
    split
    · split <;> simp [Option.map_map, Function.comp_def]
    · split
      · simp [Option.map_map, Function.comp_def]
      · rfl
theorem Vw.next (lower : ByteArray → Option ByteArray) (p : Nat) : next lower s' (lim + d) (p + d) = (Tag0.next lower s lim p).map (mvT d) := by
  fun_induction Tag0.next lower s lim p with
  | case1 p h1 h2 =>
    rw [Tag0.next, h.find, dif_pos (by omega), h.after lower _ (by omega), h2]; rfl
  | case2 p h1 t h2 =>
    rw [Tag0.next, h.find, dif_pos (by omega), h.after lower _ (by omega), h2]; rfl
  | case3 p h1 h2 ih =>
    rw [Tag0.next, h.find, dif_pos (by omega), h.after lower _ (by omega), h2]
    show Tag0.next lower s' (lim + d) (findB s lim 60 p + d + 1) = _
    rw [show findB s lim 60 p + d + 1 = findB s lim 60 p + 1 + d by omega]; exact ih
  | case4 p h1 =>
    rw [Tag0.next, h.find, dif_neg (by omega)]
    simp [mvT]
omit h

/-! ### what a scanner tells of any text -/
/-- A tag is in order: its kind, where it begins and ends. -/
def Fine (s : ByteArray) (lim p : Nat) (t : Tok) : Prop :=
  p ≤ t.pos ∧ t.pos ≤ lim ∧ (t.ok = true → (p : Int) ≤ t.start ∧ t.start < t.pos ∧ bt s t.start = 60 ∧ 1 ≤ t.ty ∧ t.ty ≤ 3) ∧ (t.ok = false → t.pos = lim ∧ t.start = 0 ∧ t.ty = 0 ∧ t.name = ⟨#[]⟩ ∧ t.self = false)
theorem other_fine {i q p : Nat} {t : Tok} (ho : Tag0.other i q = some t) (h1 : p ≤ i) (h2 : i < q) (h3 : q ≤ lim) (hb : bt s (i : Nat) = 60) : Fine s lim p t := by
  simp only [Tag0.other, Option.some.injEq] at ho
  subst ho
  exact ⟨by show p ≤ q; omega, h3, fun _ => ⟨by show (p : Int) ≤ (i : Int); omega, by show (i : Int) < (q : Int); omega, hb, (show (1 : Int) ≤ 3 by decide), (show (3 : Int) ≤ 3 by decide)⟩, fun e => by cases e⟩
theorem body_fine {lower : ByteArray → Option ByteArray} {i q p : Nat} {st : Bool} {t : Tok} (ho : Tag0.body lower s lim st (i : Nat) q = some t) (h1 : p ≤ i) (h2 : i < q) (h3 : q ≤ lim) (hb : bt s (i : Nat) = 60) : Fine s lim p t := by
  unfold Tag0.body at ho
  cases hl : lower (s.extract q (Tag0.nameE s lim q)) with
  | none => rw [hl] at ho; cases ho
  | some n =>
    rw [hl] at ho
    simp only [Option.bind_some, Option.some.injEq] at ho
    have g1 := nameE_ge s lim q h3
    have g2 := attrs_ge s lim st (Tag0.nameE s lim q) false g1.2
    subst ho
    refine ⟨by show p ≤ (Tag0.attrs s lim st (Tag0.nameE s lim q) false).1; omega, g2.2, fun _ => ⟨by show (p : Int) ≤ (i : Int); omega, by show (i : Int) < ((Tag0.attrs s lim st (Tag0.nameE s lim q) false).1 : Int); omega, hb, ?_, ?_⟩, fun e => by cases e⟩
    · show (1 : Int) ≤ if st then 1 else 2
      cases st <;> decide
    · show (if st then 1 else 2 : Int) ≤ 3
      cases st <;> decide
theorem next_fine {lower : ByteArray → Option ByteArray} {p : Nat} {t : Tok} (hn : Tag0.next lower s lim p = some t) (hp : p ≤ lim) : Fine s lim p t := by
  fun_induction Tag0.next lower s lim p with
  | case1 p h1 h2 => cases hn
  | case2 p h1 t' h2 =>
    cases hn
    have hb : bt s ((findB s lim 60 p : Nat) : Int) = 60 := findB_at (by omega)
    obtain ⟨h3, h4⟩ := h1
    generalize findB s lim 60 p = i at *
    unfold afterLt at h2
    have k1 := skipE_ge s lim ⟨#[45, 45, 62]⟩ (i + 4)
    have k2 := skipE_ge s lim ⟨#[93, 93, 62]⟩ (i + 1) (by omega)
    have k3 := skipE_ge s lim ⟨#[62]⟩ (i + 1) (by omega)
    have mp : ∀ o : Option Tok, o.map some = some (some t) → o = some t := by
      intro o ho; cases o with
      | none => cases ho
      | some x => simp at ho; rw [ho]
    split at h2
    · split at h2
      · rename_i hpre
        have hl : i + 4 ≤ lim ∨ lim < i + 4 := by omega
        rcases hl with hl | hl
        · exact other_fine (mp _ h2) h4 (by have := k1 hl; omega) (k1 hl).2 hb
        · exact absurd hpre (by
            unfold hasPre
            have : ¬ (⟨#[33, 45, 45]⟩ : ByteArray).size ≤ (s.extract (i + 1) lim).size := by
              have z : (⟨#[33, 45, 45]⟩ : ByteArray).size = 3 := rfl
              rw [z]; simp; omega
            rw [decide_eq_false this]; simp)
      · split at h2
        · exact other_fine (mp _ h2) h4 (by omega) k2.2 hb
        · exact other_fine (mp _ h2) h4 (by omega) k3.2 hb
    · split at h2
      · split at h2
        · rename_i hl
          have k4 := skipE_ge s lim ⟨#[62]⟩ (i + 2) (by omega)
          exact other_fine (mp _ h2) h4 (by omega) k4.2 hb
        · exact body_fine (mp _ h2) h4 (by omega) (by omega) hb
      · split at h2
        · exact body_fine (mp _ h2) h4 (by omega) (by omega) hb
        · cases h2
  | case3 p h1 h2 ih =>
    obtain ⟨a, b, c, e⟩ := ih hn (by omega)
    exact ⟨by omega, b, fun ho => by have := c ho; exact ⟨by omega, this.2⟩, e⟩
  | case4 p h1 =>
    cases hn
    exact ⟨hp, Nat.le_refl _, fun e => (by cases e), fun _ => ⟨rfl, rfl, rfl, rfl, rfl⟩⟩
/-- Where each name has its lower case, there is an answer. -/
theorem next_some {lower : ByteArray → Option ByteArray} (ht : ∀ x : ByteArray, x.size ≤ s.size → ∃ r, lower x = some r) (p : Nat) : ∃ t, Tag0.next lower s lim p = some t := by
  have hb : ∀ st i q, ∃ t, Tag0.body lower s lim st i q = some t := by
    intro st i q
    obtain ⟨r, hr⟩ := ht (s.extract q (Tag0.nameE s lim q)) (by simp; omega)
    exact ⟨_, by unfold Tag0.body; rw [hr]; rfl⟩
  fun_induction Tag0.next lower s lim p with
  | case1 p h1 h2 =>
    exfalso
    unfold afterLt Tag0.other at h2
    repeat' split at h2
    all_goals first
      | (simp at h2; done)
      | (obtain ⟨t, e⟩ := hb false (findB s lim 60 p : Nat) (findB s lim 60 p + 2); rw [e] at h2; simp at h2; done)
      | (obtain ⟨t, e⟩ := hb true (findB s lim 60 p : Nat) (findB s lim 60 p + 1); rw [e] at h2; simp at h2)
  | case2 p h1 t h2 => exact ⟨t, rfl⟩
  | case3 p h1 h2 ih => exact ih
  | case4 p h1 => exact ⟨_, rfl⟩
end Go.Proofs.YthjddnmfpdcjnaaDoor.TagV
