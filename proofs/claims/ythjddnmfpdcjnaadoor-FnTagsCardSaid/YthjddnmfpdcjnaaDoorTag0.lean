/- The scanner of tags in plain words: which tag comes next in a text up to a limit, and where the scanner stands behind it. No program. -/
import Derived.Test.YthjddnmfpdcjnaaDoorWMore
import Derived.Test.YthjddnmfpdcjnaaDoorLib0
import Derived.Lib.Hide
set_option linter.unusedVariables false
namespace Go.Proofs.YthjddnmfpdcjnaaDoor.Tag0
open Go.RowKit Go.Proofs.YthjddnmfpdcjnaaDoorW.PrintWords

def ltr (c : Int) : Bool := decide (97 ≤ c) && decide (c ≤ 122) || decide (65 ≤ c) && decide (c ≤ 90)
def spc (c : Int) : Bool := c == 32 || c == 9 || c == 10 || c == 13 || c == 12
def nend (c : Int) : Bool := spc c || c == 47 || c == 62

/-- The first place from p on that bears c; the limit without one. -/
def findB (s : ByteArray) (lim : Nat) (c : Int) (p : Nat) : Nat := if p < lim then (if bt s p = c then p else findB s lim c (p + 1)) else lim
termination_by lim - p
theorem findB_ge (s : ByteArray) (lim : Nat) (c : Int) (p : Nat) (h : p ≤ lim) : p ≤ findB s lim c p ∧ findB s lim c p ≤ lim := by
  fun_induction findB s lim c p with
  | case1 p h1 h2 => omega
  | case2 p h1 h2 ih => have := ih (by omega); omega
  | case3 p h1 => omega
theorem findB_at {s : ByteArray} {lim : Nat} {c : Int} {p : Nat} (h : findB s lim c p < lim) : bt s (findB s lim c p) = c := by
  fun_induction findB s lim c p with
  | case1 p h1 h2 => exact h2
  | case2 p h1 h2 ih => exact ih h
  | case3 p h1 => omega
theorem findB_before {s : ByteArray} {lim : Nat} {c : Int} {p : Nat} : ∀ j, p ≤ j → j < findB s lim c p → bt s j ≠ c := by
  fun_induction findB s lim c p with
  | case1 p h1 h2 => intro j h3 h4; omega
  | case2 p h1 h2 ih => intro j h3 h4; rcases Nat.eq_or_lt_of_le h3 with h | h; exact h ▸ h2; exact ih j h h4
  | case3 p h1 => intro j h3 h4; omega
theorem findB_eq {s : ByteArray} {lim : Nat} {c : Int} {p q : Nat} (h0 : p ≤ q) (h1 : q ≤ lim) (hb : ∀ j, p ≤ j → j < q → bt s j ≠ c) (hq : q < lim → bt s q = c) : findB s lim c p = q := by
  rcases Nat.lt_trichotomy (findB s lim c p) q with h | h | h
  · exact absurd (findB_at (s := s) (lim := lim) (c := c) (p := p) (by omega)) (hb _ (findB_ge s lim c p (by omega)).1 h)
  · exact h
  · have := (findB_ge s lim c p (by omega)).2
    exact absurd (hq (by omega)) (findB_before q h0 h)

/-- The place behind a name. -/
def nameE (s : ByteArray) (lim : Nat) (p : Nat) : Nat := if p < lim then (if nend (bt s p) = true then p else nameE s lim (p + 1)) else p
termination_by lim - p
theorem nameE_ge (s : ByteArray) (lim : Nat) (p : Nat) (h : p ≤ lim) : p ≤ nameE s lim p ∧ nameE s lim p ≤ lim := by
  fun_induction nameE s lim p with
  | case1 p h1 h2 => omega
  | case2 p h1 h2 ih => have := ih (by omega); omega
  | case3 p h1 => omega
/-- The place behind blanks. -/
def blanksE (s : ByteArray) (lim : Nat) (p : Nat) : Nat := if p < lim then (if spc (bt s p) = true then blanksE s lim (p + 1) else p) else p
termination_by lim - p
theorem blanksE_ge (s : ByteArray) (lim : Nat) (p : Nat) (h : p ≤ lim) : p ≤ blanksE s lim p ∧ blanksE s lim p ≤ lim := by
  fun_induction blanksE s lim p with
  | case1 p h1 h2 ih => have := ih (by omega); omega
  | case2 p h1 h2 => omega
  | case3 p h1 => omega
/-- The place behind a value in quotes, if one stands here. -/
def valueE (s : ByteArray) (lim : Nat) (p : Nat) : Nat :=
  if p < lim then (if bt s p = 34 ∨ bt s p = 39 then (if findB s lim (bt s p) (p + 1) = lim then lim else findB s lim (bt s p) (p + 1) + 1) else p) else p
theorem valueE_ge (s : ByteArray) (lim : Nat) (p : Nat) (h : p ≤ lim) : p ≤ valueE s lim p ∧ valueE s lim p ≤ lim := by
  unfold valueE
  split
  · split
    · have := findB_ge s lim (bt s p) (p + 1) (by omega)
      split <;> omega
    · omega
  · omega
/-- The place behind a tag whose attributes begin here, and whether it closes itself. -/
def attrs (s : ByteArray) (lim : Nat) (st : Bool) (p : Nat) (self : Bool) : Nat × Bool :=
  if h : p < lim then
    if bt s p = 62 then (p + 1, self)
    else if bt s p = 47 then attrs s lim st (p + 1) (st && decide (p + 1 < lim) && (bt s ((p + 1 : Nat) : Int) == 62))
    else if bt s p = 61 then attrs s lim st (valueE s lim (blanksE s lim (p + 1))) self
    else attrs s lim st (p + 1) self
  else (p, self)
termination_by lim - p
decreasing_by
  · omega
  · have h1 := blanksE_ge s lim (p + 1) (by omega)
    have h2 := valueE_ge s lim (blanksE s lim (p + 1)) (by omega)
    omega
  · omega
theorem attrs_ge (s : ByteArray) (lim : Nat) (st : Bool) (p : Nat) (self : Bool) (h : p ≤ lim) : p ≤ (attrs s lim st p self).1 ∧ (attrs s lim st p self).1 ≤ lim := by
  fun_induction attrs s lim st p self with
  | case1 p self h1 h2 => simp; omega
  | case2 p self h1 h2 h3 ih => have := ih (by omega); omega
  | case3 p self h1 h2 h3 h4 ih =>
    have h5 := blanksE_ge s lim (p + 1) (by omega)
    have h6 := valueE_ge s lim (blanksE s lim (p + 1)) (by omega)
    have := ih (by omega); omega
  | case4 p self h1 h2 h3 h4 ih => have := ih (by omega); omega
  | case5 p self h1 => simp; omega

/-- Where a text stands first from p on; -1 without one. -/
def subAt (s : ByteArray) (lim : Nat) (sep : ByteArray) (p : Nat) : Option Nat :=
  if p + sep.size ≤ lim then (if (s.extract p (p + sep.size)).toList = sep.toList then some p else subAt s lim sep (p + 1)) else none
termination_by lim + 1 - p
/-- The place behind the first such text; the limit without one. -/
def skipE (s : ByteArray) (lim : Nat) (sep : ByteArray) (p : Nat) : Nat := match subAt s lim sep p with
  | some q => q + sep.size
  | none => lim
theorem subAt_ge {s : ByteArray} {lim : Nat} {sep : ByteArray} {p q : Nat} (h : subAt s lim sep p = some q) : p ≤ q ∧ q + sep.size ≤ lim ∧ (s.extract q (q + sep.size)).toList = sep.toList := by
  fun_induction subAt s lim sep p with
  | case1 p h1 h2 => obtain rfl := Option.some.inj h; exact ⟨Nat.le_refl _, h1, h2⟩
  | case2 p h1 h2 ih => have := ih h; exact ⟨by omega, this.2⟩
  | case3 p h1 => cases h
theorem skipE_ge (s : ByteArray) (lim : Nat) (sep : ByteArray) (p : Nat) (h : p ≤ lim) : p ≤ skipE s lim sep p ∧ skipE s lim sep p ≤ lim := by
  unfold skipE
  split
  · rename_i q hq; have := subAt_ge hq; omega
  · omega

def hasPre (x y : ByteArray) : Bool := decide (y.size ≤ x.size) && (x.extract 0 y.size).toList == y.toList

structure Tok where
  ty : Int
  name : ByteArray
  self : Bool
  start : Int
  ok : Bool
  pos : Nat

/-- A tag whose name begins at p. -/
def body (lower : ByteArray → Option ByteArray) (s : ByteArray) (lim : Nat) (st : Bool) (start p : Nat) : Option Tok :=
  (lower (s.extract p (nameE s lim p))).bind fun n => some ⟨if st then 1 else 2, n, (attrs s lim st (nameE s lim p) false).2, start, true, (attrs s lim st (nameE s lim p) false).1⟩
def other (start : Nat) (pos : Nat) : Option Tok := some ⟨3, ⟨#[]⟩, false, start, true, pos⟩
/-- What stands behind a < at i. -/
def afterLt (lower : ByteArray → Option ByteArray) (s : ByteArray) (lim : Nat) (i : Nat) : Option (Option Tok) :=
  if bt s ((i + 1 : Nat) : Int) = 33 ∨ bt s ((i + 1 : Nat) : Int) = 63 then
    if hasPre (s.extract (i + 1) lim) ⟨#[33, 45, 45]⟩ = true then (other i (skipE s lim ⟨#[45, 45, 62]⟩ (i + 4))).map some
    else if hasPre (s.extract (i + 1) lim) ⟨#[33, 91, 67, 68, 65, 84, 65, 91]⟩ = true then (other i (skipE s lim ⟨#[93, 93, 62]⟩ (i + 1))).map some
    else (other i (skipE s lim ⟨#[62]⟩ (i + 1))).map some
  else if bt s ((i + 1 : Nat) : Int) = 47 then
    if i + 2 < lim ∧ ltr (bt s ((i + 2 : Nat) : Int)) = false then (other i (skipE s lim ⟨#[62]⟩ (i + 2))).map some
    else (body lower s lim false i (i + 2)).map some
  else if ltr (bt s ((i + 1 : Nat) : Int)) = true then (body lower s lim true i (i + 1)).map some
  else some none
def next (lower : ByteArray → Option ByteArray) (s : ByteArray) (lim : Nat) (p : Nat) : Option Tok :=
  if h : findB s lim 60 p + 1 < lim ∧ p ≤ findB s lim 60 p then
    match afterLt lower s lim (findB s lim 60 p) with
    | none => none
    | some (some t) => some t
    | some none => next lower s lim (findB s lim 60 p + 1)
  else some ⟨0, ⟨#[]⟩, false, 0, false, lim⟩
termination_by lim - p
theorem skipE_lt {s : ByteArray} {lim : Nat} {sep : ByteArray} {p : Nat} (h : skipE s lim sep p < lim) : p + sep.size ≤ skipE s lim sep p := by
  unfold skipE at h ⊢
  split at h
  · rename_i q hq; have := subAt_ge hq; omega
  · omega
/-- Where the scanner stands that skips raw text. -/
def skipRaw (fold : ByteArray → ByteArray → Option Bool) (s : ByteArray) (lim : Nat) (name : ByteArray) (p : Nat) : Option Nat :=
  if h : skipE s lim ⟨#[60, 47]⟩ p < lim then
    if name.size < (s.extract (skipE s lim ⟨#[60, 47]⟩ p) lim).size then
      match fold ((s.extract (skipE s lim ⟨#[60, 47]⟩ p) lim).extract 0 name.size) name with
      | none => none
      | some true => if nend (bt (s.extract (skipE s lim ⟨#[60, 47]⟩ p) lim) name.size) = true then some (skipE s lim ⟨#[60, 47]⟩ p - 2) else skipRaw fold s lim name (skipE s lim ⟨#[60, 47]⟩ p)
      | some false => skipRaw fold s lim name (skipE s lim ⟨#[60, 47]⟩ p)
    else skipRaw fold s lim name (skipE s lim ⟨#[60, 47]⟩ p)
  else some (skipE s lim ⟨#[60, 47]⟩ p)
termination_by lim - p
decreasing_by all_goals (have h1 := skipE_lt h; have h2 : (⟨#[60, 47]⟩ : ByteArray).size = 2 := rfl; omega)
end Go.Proofs.YthjddnmfpdcjnaaDoor.Tag0
