/- Plain words on texts that are joined out of pieces: where a piece stands; what a text has. No program. -/
import Derived.Test.YthjddnmfpdcjnaaDoorHas0L6
import Derived.Test.YthjddnmfpdcjnaaDoorTag0
set_option linter.unusedVariables false
namespace Go.Proofs.YthjddnmfpdcjnaaDoor.TxtA
open Go.RowKit Go.Proofs.YthjddnmfpdcjnaaDoorW.PrintWords Go.Proofs.YthjddnmfpdcjnaaDoor.Lib0 Go.Proofs.YthjddnmfpdcjnaaDoor.Tag0 Go.Proofs.YthjddnmfpdcjnaaDoor.Has0L6

/-- t stands in s at i. -/
structure At (s t : ByteArray) (i : Nat) : Prop where
  le : i + t.size ≤ s.size
  eq : ∀ j : Nat, j < t.size → bt s ((i + j : Nat) : Int) = bt t (j : Nat)
theorem At.self (s : ByteArray) : At s s 0 := ⟨by omega, fun j _ => by rw [Nat.zero_add]⟩
theorem At.left {s a b : ByteArray} {i : Nat} (h : At s (a ++ b) i) : At s a i := by
  have := h.le
  rw [ByteArray.size_append] at this
  refine ⟨by omega, fun j hj => ?_⟩
  rw [h.eq j (by rw [ByteArray.size_append]; omega), bt_app_left _ _ _ (by omega) (by omega)]
theorem At.right {s a b : ByteArray} {i : Nat} (h : At s (a ++ b) i) : At s b (i + a.size) := by
  have := h.le
  rw [ByteArray.size_append] at this
  refine ⟨by omega, fun j hj => ?_⟩
  have := h.eq (a.size + j) (by rw [ByteArray.size_append]; omega)
  rw [Nat.add_assoc, this, bt_app_right _ _ _ (by omega)]
  congr 1; omega
theorem At.get {s t : ByteArray} {i : Nat} (h : At s t i) (k : Nat) (h1 : i ≤ k) (h2 : k < i + t.size) : bt s (k : Nat) = bt t ((k - i : Nat) : Int) := by
  have := h.eq (k - i) (by omega)
  rwa [show i + (k - i) = k by omega] at this
theorem bt_inj {s : ByteArray} {i j : Nat} (hi : i < s.size) : bt s i = ((s.data.toList.getD i 0).toNat : Int) := by rw [bt_list]; rfl
theorem ext_bt {a b : ByteArray} (hs : a.size = b.size) (h : ∀ j : Nat, j < a.size → bt a (j : Nat) = bt b (j : Nat)) : a = b := by
  refine bytes_ext (List.ext_getElem (by rw [size_len, size_len, hs]) fun j h1 h2 => ?_)
  have := h j (by rwa [size_len] at h1)
  rw [bt_list, bt_list] at this
  simp only [Int.toNat_natCast] at this
  rw [getD_in _ _ _ h1, getD_in _ _ _ h2] at this
  exact UInt8.toNat_inj.1 (by omega)
theorem At.ext {s t : ByteArray} {i k : Nat} (h : At s t i) (hk : k = i + t.size) : s.extract i k = t := by
  have hl := h.le
  subst hk
  refine ext_bt (by simp; omega) fun j hj => ?_
  have hj2 : j < t.size := by simp at hj; omega
  rw [bt_extract _ _ _ _ (by omega) (by omega) (by omega)]
  exact h.eq j hj2
theorem At.of_ext {s t : ByteArray} {i : Nat} (hl : i + t.size ≤ s.size) (h : (s.extract i (i + t.size)).toList = t.toList) : At s t i := by
  have h := bytes_ext' h
  refine ⟨hl, fun j hj => ?_⟩
  conv => rhs; rw [← h]
  rw [bt_extract _ _ _ _ (by omega) (by omega) (by omega)]
  rfl
theorem hasAt_iff {s t : ByteArray} {i : Nat} : HasAt s t i ↔ At s t i :=
  ⟨fun h => .of_ext h.1 h.2, fun h => ⟨h.le, by rw [h.ext rfl]⟩⟩
theorem At.trans {s t u : ByteArray} {i j : Nat} (h : At s t i) (k : At t u j) : At s u (i + j) := by
  have h1 := h.le
  have h2 := k.le
  refine ⟨by omega, fun q hq => ?_⟩
  rw [← k.eq q hq, ← h.eq (j + q) (by omega)]
  congr 1; omega

/-! ### one byte looked for -/
theorem find_in {s a : ByteArray} {lim i : Nat} {c : UInt8} (h : At s a i) (hl : i + a.size ≤ lim) (hn : ∀ j, ¬ HasAt a ⟨#[c]⟩ j) (hq : i + a.size < lim → bt s ((i + a.size : Nat) : Int) = (c.toNat : Int)) : findB s lim (c.toNat : Int) i = i + a.size := by
  refine findB_eq (by omega) hl (fun j h1 h2 e => ?_) hq
  rw [h.get j h1 h2] at e
  exact hn (j - i) ((hasAt_byte a c (j - i)).2 ⟨by omega, e⟩)

/-! ### a text looked for -/
theorem subAt_first {s t : ByteArray} {lim p q : Nat} (hl : lim ≤ s.size) (hq : At s t q) (h1 : p ≤ q) (h2 : q + t.size ≤ lim) (hb : ∀ j, p ≤ j → j < q → ¬ At s t j) : subAt s lim t p = some q := by
  fun_induction subAt s lim t p with
  | case1 p h3 h4 =>
    rcases Nat.eq_or_lt_of_le h1 with e | e
    · rw [e]
    · exact absurd (At.of_ext (by omega) h4) (hb p (Nat.le_refl _) e)
  | case2 p h3 h4 ih =>
    rcases Nat.eq_or_lt_of_le h1 with e | e
    · subst e; exact absurd (by rw [hq.ext rfl]) h4
    · exact ih (by omega) (fun j h5 h6 => hb j (by omega) h6)
  | case3 p h3 => omega
theorem subAt_none {s t : ByteArray} {lim p : Nat} (hl : lim ≤ s.size) (hb : ∀ j, p ≤ j → j + t.size ≤ lim → ¬ At s t j) : subAt s lim t p = none := by
  fun_induction subAt s lim t p with
  | case1 p h3 h4 => exact absurd (At.of_ext (by omega) h4) (hb p (Nat.le_refl _) h3)
  | case2 p h3 h4 ih => exact ih (fun j h5 h6 => hb j (by omega) h6)
  | case3 p h3 => rfl
theorem skip_first {s t : ByteArray} {lim p q : Nat} (hl : lim ≤ s.size) (hq : At s t q) (h1 : p ≤ q) (h2 : q + t.size ≤ lim) (hb : ∀ j, p ≤ j → j < q → ¬ At s t j) : skipE s lim t p = q + t.size := by
  unfold skipE; rw [subAt_first hl hq h1 h2 hb]
theorem pre_at {s t : ByteArray} {i lim : Nat} (h : At s t i) (hl : i + t.size ≤ lim) (hs : lim ≤ s.size) : hasPre (s.extract i lim) t = true := by
  unfold hasPre
  have e : (s.extract i lim).size = lim - i := by simp; omega
  have : (s.extract i lim).extract 0 t.size = t := by
    refine ext_bt (by simp; omega) fun j hj => ?_
    have hj2 : j < t.size := by simp at hj; omega
    rw [bt_extract _ _ _ _ (by omega) (by omega) (by omega), bt_extract _ _ _ _ (by omega) (by omega) (by omega)]
    have := h.eq j hj2
    rw [← this]
    congr 1; omega
  rw [this, e]
  simp; omega
theorem pre_not {s t : ByteArray} {i lim j : Nat} (hj : j < t.size) (hs : lim ≤ s.size) (h : bt s ((i + j : Nat) : Int) ≠ bt t (j : Nat)) : hasPre (s.extract i lim) t = false := by
  unfold hasPre
  by_cases hz : t.size ≤ (s.extract i lim).size
  · simp only [hz, decide_true, Bool.true_and, beq_eq_false_iff_ne]
    intro e
    have e := bytes_ext' e
    have h2 : (s.extract i lim).size = lim - i := by simp; omega
    apply h
    conv => rhs; rw [← e]
    rw [bt_extract _ _ _ _ (by omega) (by omega) (by omega), bt_extract _ _ _ _ (by omega) (by omega) (by omega)]
    congr 1; omega
  · rw [decide_eq_false hz]; rfl

/-! ### names -/
def allL (s : ByteArray) : Prop := ∀ j : Nat, j < s.size → ltr (bt s (j : Nat)) = true
theorem ltr_nend {c : Int} (h : ltr c = true) : nend c = false := by
  unfold ltr at h; unfold nend spc
  simp only [Bool.or_eq_true, Bool.and_eq_true, decide_eq_true_eq] at h
  simp only [Bool.or_eq_false_iff, beq_eq_false_iff_ne]
  omega
theorem nameE_at {s a : ByteArray} {lim i : Nat} (h : At s a i) (hl : i + a.size < lim) (ha : allL a) (he : nend (bt s ((i + a.size : Nat) : Int)) = true) : nameE s lim i = i + a.size := by
  have key : ∀ d k, a.size - k = d → k ≤ a.size → nameE s lim (i + k) = i + a.size := by
    intro d
    induction d with
    | zero =>
      intro k hk hk2
      obtain rfl : k = a.size := by omega
      rw [nameE, if_pos hl, if_pos he]
    | succ d ih =>
      intro k hk hk2
      rw [nameE, if_pos (by omega), h.eq k (by omega), ltr_nend (ha k (by omega)), if_neg (by simp)]
      exact ih (k + 1) (by omega) (by omega)
  exact key _ 0 rfl (Nat.zero_le _)
/-- A tag without an end goes up to the limit. -/
theorem blanks_no (s : ByteArray) (lim p : Nat) (h : p ≤ lim) : p ≤ blanksE s lim p ∧ blanksE s lim p ≤ lim := blanksE_ge s lim p h
theorem attrs_end {s : ByteArray} {lim : Nat} {st : Bool} {p : Nat} {self : Bool} (hp : p ≤ lim) (h : ∀ j : Nat, p ≤ j → j < lim → bt s (j : Nat) ≠ 62 ∧ bt s (j : Nat) ≠ 34 ∧ bt s (j : Nat) ≠ 39) : (attrs s lim st p self).1 = lim := by
  fun_induction attrs s lim st p self with
  | case1 p self h1 h2 => exact absurd h2 (h p (Nat.le_refl _) h1).1
  | case2 p self h1 h2 h3 ih => exact ih (by omega) (fun j h4 h5 => h j (by omega) h5)
  | case3 p self h1 h2 h3 h4 ih =>
    have h5 := blanksE_ge s lim (p + 1) (by omega)
    have h6 := valueE_ge s lim (blanksE s lim (p + 1)) (by omega)
    exact ih h6.2 (fun j h7 h8 => h j (by omega) h8)
  | case4 p self h1 h2 h3 h4 ih => exact ih (by omega) (fun j h5 h6 => h j (by omega) h6)
  | case5 p self h1 => simp; omega
end Go.Proofs.YthjddnmfpdcjnaaDoor.TxtA
