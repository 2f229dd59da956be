/- What FnTags needs of LawC and LawD: what scripts answer, where what was told lies. -/
import Derived.Test.YthjddnmfpdcjnaaDoorLawB
import Derived.Test.YthjddnmfpdcjnaaDoorTxtA
import Derived.Test.YthjddnmfpdcjnaaDoorOwnLow
import Derived.Test.YthjddnmfpdcjnaaDoorRx
import Derived.Lib.LaidCaseMet
set_option linter.unusedVariables false
namespace Go.Proofs.YthjddnmfpdcjnaaDoor.LawC
open Go.Rx hiding bt
open Go.RowKit Go.Proofs.YthjddnmfpdcjnaaDoorW.PrintWords Go.Proofs.YthjddnmfpdcjnaaDoor.Lib0 Go.Proofs.YthjddnmfpdcjnaaDoor.Tag0 Go.Proofs.YthjddnmfpdcjnaaDoor.NextW Go.Proofs.YthjddnmfpdcjnaaDoor.Has0L6 Go.Proofs.YthjddnmfpdcjnaaDoor.LawA Go.Proofs.YthjddnmfpdcjnaaDoor.LawB Go.Proofs.YthjddnmfpdcjnaaDoor.TxtA

variable {lower : ByteArray → Option ByteArray} {fold : ByteArray → ByteArray → Option Bool}

/-! ### the library's functions, as a script wants them -/
theorem hlow (S : Nat → Prop) (w0 : World) : ∀ x r, strings_ToLower.f x = some r → ∀ w', Evo S w0 w' → Calls Tryd.prog 41 #[.string x] w' fun e w'' => e = .returned (.string r) ∧ Below w'.heap.size w' w'' :=
  fun x r h w' _ => strings_ToLower.calls x r w' h
theorem hfold : ∀ x y b, strings_EqualFold.f x y = some b → ∀ w', Calls Tryd.prog 43 #[.string x, .string y] w' fun e w'' => e = .returned (.bool b) ∧ w'' = w' := by
  intro a0 a1 r h w'
  unfold strings_EqualFold.f at h
  split at h
  · rename_i h1
    split at h
    · rename_i h2
      split at h
      · rename_i h3
        cases h
        exact Tryd.strings_EqualFold a0 a1 w' h1 ((asciiB_iff _).1 h2) ((asciiB_iff _).1 h3)
      · cases h
    · cases h
  · cases h
theorem allL_of {s : ByteArray} (h : lettersE s 0 = true) : allL s := fun j hj => lettersE_all h j (Nat.zero_le _) hj
theorem ltr_range {c : Int} (h : ltr c = true) : 65 ≤ c ∧ c ≤ 122 := by
  unfold ltr at h
  simp only [Bool.or_eq_true, Bool.and_eq_true, decide_eq_true_eq] at h
  omega
theorem byte_bt {s : ByteArray} {j : Nat} {b : UInt8} (h : s.data.toList[j]? = some b) : bt s (j : Nat) = (b.toNat : Int) ∧ j < s.size := by
  obtain ⟨h1, h2⟩ := List.getElem?_eq_some_iff.1 h
  rw [bt_list, Int.toNat_natCast, Lib0.getD_in _ _ _ h1, h2]
  exact ⟨rfl, by rwa [size_len] at h1⟩
theorem ascii_of {s : ByteArray} (h : allL s) : asciiB s = true := by
  rw [asciiB_iff]
  intro j b hb
  obtain ⟨h1, h2⟩ := byte_bt hb
  have := ltr_range (h j h2)
  omega
theorem low_byte : ∀ c : Fin 256, (!(ltr (c.val : Int)) || decide (UInt8.ofNat (lowO (c.val : Int)).toNat = Lib.lowerB (UInt8.ofNat c.val))) = true := by decide +kernel
theorem lower_low {s : ByteArray} (h : allL s) (hs : s.size ≤ 140737488355328) : strings_ToLower.f s = some (lowB s) := by
  unfold strings_ToLower.f
  rw [if_pos hs, if_pos (ascii_of h)]
  congr 1
  refine bytes_ext ?_
  show Lib.toLowerA s.data.toList = _
  unfold lowB
  rw [strOfNums_data]
  unfold Lib.toLowerA bytesOf
  rw [List.map_map, List.map_map]
  refine List.map_congr_left fun b hb => ?_
  obtain ⟨j, hj⟩ := List.getElem?_of_mem hb
  obtain ⟨h1, h2⟩ := byte_bt hj
  have h3 := h j h2
  rw [h1] at h3
  have := low_byte ⟨b.toNat, b.toNat_lt⟩
  simp only [h3, Bool.not_true, Bool.false_or, decide_eq_true_eq] at this
  simp only [Function.comp]
  rw [this]
  simp
theorem foldEq_refl : ∀ b : UInt8, Lib.foldEq b b = true := by
  intro b
  have : ∀ c : Fin 256, Lib.foldEq (UInt8.ofNat c.val) (UInt8.ofNat c.val) = true := by decide +kernel
  simpa using this ⟨b.toNat, b.toNat_lt⟩
theorem fold_self {s : ByteArray} (h : allL s) (hs : s.size < 4294967281) : strings_EqualFold.f s s = some true := by
  unfold strings_EqualFold.f
  rw [if_pos hs, if_pos (ascii_of h), if_pos (ascii_of h)]
  congr 1
  induction s.data.toList with
  | nil => rfl
  | cons x l ih => rw [Lib.equalFold, foldEq_refl, ih]; rfl

/-! ### steps -/
theorem step_next {s : ByteArray} {lim p : Nat} {t : Tok} (nm : ByteArray) (h1 : p ≤ lim) (h2 : lim ≤ s.size) (h : next lower s lim p = some t) : step1 lower fold s p ⟨0, lim, nm⟩ = some ⟨t.ty, t.name, t.self, t.start, t.ok, t.pos⟩ := by
  unfold step1
  rw [if_pos (show (⟨0, lim, nm⟩ : Step).act = 0 from rfl), if_pos (show (p : Int) ≤ (lim : Int) ∧ (lim : Int) ≤ (s.size : Int) by omega)]
  show (next lower s lim p).map _ = _
  rw [h]; rfl
theorem step_skip {s : ByteArray} {lim p q : Nat} {nm : ByteArray} (h1 : p ≤ lim) (h2 : lim ≤ s.size) (h : skipRaw fold s lim nm p = some q) : step1 lower fold s p ⟨1, lim, nm⟩ = some ⟨0, ⟨#[]⟩, false, 0, false, q⟩ := by
  unfold step1
  rw [if_neg (show ¬ ((1 : Int) = 0) by decide), if_pos rfl, if_pos (show (p : Int) ≤ (lim : Int) ∧ (lim : Int) ≤ (s.size : Int) by omega)]
  show (skipRaw fold s lim nm p).map _ = _
  rw [h]; rfl
theorem tags_one {s : ByteArray} {p : Nat} {x : Step} {t : NextW.Told} (h : step1 lower fold s p x = some t) : tags lower fold s p [x] = some [t] := by
  simp only [tags, h, Option.map_some]
theorem tags_cons {s : ByteArray} {p : Nat} {x : Step} {l : List Step} {t : NextW.Told} {r : List NextW.Told} (h : step1 lower fold s p x = some t) (hr : tags lower fold s t.pos l = some r) : tags lower fold s p (x :: l) = some (t :: r) := by
  simp only [tags, h, hr, Option.map_some]
theorem next_at {s : ByteArray} {lim p i : Nat} {t : Tok} (hf : findB s lim 60 p = i) (h1 : i + 1 < lim) (hp : p ≤ i) (ha : afterLt lower s lim i = some (some t)) : next lower s lim p = some t := by
  rw [next, hf, dif_pos ⟨h1, hp⟩, ha]

/-! ### a comment, character data -/
theorem at_lit {s t u : ByteArray} {i j : Nat} (h : At s t i) (hj : j + u.size ≤ t.size) (hk : ∀ q : Nat, q < u.size → bt t ((j + q : Nat) : Int) = bt u (q : Nat)) : At s u (i + j) := h.trans ⟨hj, hk⟩
theorem at_byte {s t : ByteArray} {i : Nat} (h : At s t i) (j : Nat) (hj : j < t.size) {c : Int} (hc : bt t (j : Nat) = c) : bt s ((i + j : Nat) : Int) = c := by rw [h.eq j hj, hc]
def cOpen : ByteArray := ⟨#[60, 33, 45, 45]⟩
def cEnd : ByteArray := ⟨#[45, 45, 62]⟩
theorem lt33 {c : Int} (h : ltr c = true) : ¬ (c = 33 ∨ c = 63) ∧ ¬ c = 47 := by
  have := ltr_range h
  omega
theorem attrs_gt {s : ByteArray} {lim p : Nat} {st self : Bool} (h : p < lim) (hb : bt s (p : Nat) = 62) : attrs s lim st p self = (p + 1, self) := by
  rw [attrs, dif_pos h, if_pos hb]
theorem ag30 : aggB Tryd.prog 30 4 = true := by kernel_rfl
theorem pos_of {a : ByteArray} (h : ¬ a = ⟨#[]⟩) : 0 < a.size := by
  rcases Nat.eq_zero_or_pos a.size with e | e
  · exact absurd (ByteArray.ext (Array.eq_empty_of_size_eq_zero e)) h
  · exact e
end Go.Proofs.YthjddnmfpdcjnaaDoor.LawC
namespace Go.Proofs.YthjddnmfpdcjnaaDoor.TagV
open Go.RowKit Go.Proofs.YthjddnmfpdcjnaaDoorW.PrintWords Go.Proofs.YthjddnmfpdcjnaaDoor.Lib0 Go.Proofs.YthjddnmfpdcjnaaDoor.Tag0 Go.Proofs.YthjddnmfpdcjnaaDoor.NextW Go.Proofs.YthjddnmfpdcjnaaDoor.TxtA Go.Proofs.YthjddnmfpdcjnaaDoor.LawA Go.Proofs.YthjddnmfpdcjnaaDoor.LawC

/-- The first lim bytes of s stand in s' from d on. -/
structure Vw (s s' : ByteArray) (lim d : Nat) : Prop where
  le : lim ≤ s.size
  le' : lim + d ≤ s'.size
  eq : ∀ j : Nat, j < lim → bt s' ((j + d : Nat) : Int) = bt s (j : Nat)
variable {s s' : ByteArray} {lim d : Nat} (h : Vw s s' lim d)
include h
theorem Vw.find (c : Int) (p : Nat) : findB s' (lim + d) c (p + d) = findB s lim c p + d := by
  fun_induction findB s lim c p with
  | case1 p h1 h2 => rw [findB, if_pos (by omega), h.eq p h1, if_pos h2]
  | case2 p h1 h2 ih => rw [findB, if_pos (by omega), h.eq p h1, if_neg h2, show p + d + 1 = p + 1 + d by omega]; exact ih
  | case3 p h1 => rw [findB, if_neg (by omega)]
theorem Vw.nameE (p : Nat) : nameE s' (lim + d) (p + d) = Tag0.nameE s lim p + d := by
  fun_induction Tag0.nameE s lim p with
  | case1 p h1 h2 => rw [Tag0.nameE, if_pos (by omega), h.eq p h1, if_pos h2]
  | case2 p h1 h2 ih => rw [Tag0.nameE, if_pos (by omega), h.eq p h1, if_neg h2, show p + d + 1 = p + 1 + d by omega]; exact ih
  | case3 p h1 => rw [Tag0.nameE, if_neg (by omega)]
theorem Vw.blanksE (p : Nat) : blanksE s' (lim + d) (p + d) = Tag0.blanksE s lim p + d := by
  fun_induction Tag0.blanksE s lim p with
  | case1 p h1 h2 ih => rw [Tag0.blanksE, if_pos (by omega), h.eq p h1, if_pos h2, show p + d + 1 = p + 1 + d by omega]; exact ih
  | case2 p h1 h2 => rw [Tag0.blanksE, if_pos (by omega), h.eq p h1, if_neg h2]
  | case3 p h1 => rw [Tag0.blanksE, if_neg (by omega)]
theorem Vw.valueE (p : Nat) : valueE s' (lim + d) (p + d) = Tag0.valueE s lim p + d := by
  unfold Tag0.valueE
  by_cases hp : p < lim
  · rw [if_pos (show p + d < lim + d by omega), if_pos hp, h.eq p hp, show p + d + 1 = p + 1 + d by omega, h.find]
    by_cases hc : bt s (p : Nat) = 34 ∨ bt s (p : Nat) = 39
    · rw [if_pos hc, if_pos hc]
      by_cases he : findB s lim (bt s (p : Nat)) (p + 1) = lim
      · rw [if_pos he, if_pos (by omega)]
      · rw [if_neg he, if_neg (by omega)]; omega
    · rw [if_neg hc, if_neg hc]
  · rw [if_neg (by omega), if_neg hp]
theorem Vw.attrs (st : Bool) (p : Nat) (self : Bool) : attrs s' (lim + d) st (p + d) self = ((Tag0.attrs s lim st p self).1 + d, (Tag0.attrs s lim st p self).2) := by
  fun_induction Tag0.attrs s lim st p self with
  | case1 p self h1 h2 => rw [Tag0.attrs, dif_pos (by omega), h.eq p h1, if_pos h2]; simp; omega
  | case2 p self h1 h2 h3 ih =>
    rw [Tag0.attrs, dif_pos (by omega), h.eq p h1, if_neg h2, if_pos h3, show p + d + 1 = p + 1 + d by omega]
    have e : (st && decide (p + 1 + d < lim + d) && (bt s' ((p + 1 + d : Nat) : Int) == 62)) = (st && decide (p + 1 < lim) && (bt s ((p + 1 : Nat) : Int) == 62)) := by
      by_cases hl : p + 1 < lim
      · rw [h.eq _ hl]; simp [hl]
      · simp [hl]
    rw [e]; exact ih
  | case3 p self h1 h2 h3 h4 ih =>
    rw [Tag0.attrs, dif_pos (by omega), h.eq p h1, if_neg h2, if_neg h3, if_pos h4, show p + d + 1 = p + 1 + d by omega, h.blanksE, h.valueE]; exact ih
  | case4 p self h1 h2 h3 h4 ih => rw [Tag0.attrs, dif_pos (by omega), h.eq p h1, if_neg h2, if_neg h3, if_neg h4, show p + d + 1 = p + 1 + d by omega]; exact ih
  | case5 p self h1 => rw [Tag0.attrs, dif_neg (by omega)]
theorem Vw.ext (p q : Nat) (hq : q ≤ lim) : s'.extract (p + d) (q + d) = s.extract p q := by
  have h1 := h.le
  have h2 := h.le'
  refine ext_bt (by simp; omega) fun j hj => ?_
  have hj2 : j < q - p := by simp at hj; omega
  rw [bt_extract _ _ _ _ (by omega) (by omega) (by omega), bt_extract _ _ _ _ (by omega) (by omega) (by omega), ← Int.natCast_add, ← Int.natCast_add, ← h.eq (p + j) (by omega)]
  congr 2; omega
theorem Vw.sub (sep : ByteArray) (p : Nat) : subAt s' (lim + d) sep (p + d) = (subAt s lim sep p).map (· + d) := by
  have h1 := h.le
  fun_induction subAt s lim sep p with
  | case1 p h2 h3 => rw [subAt, if_pos (by omega), show p + d + sep.size = p + sep.size + d by omega, h.ext _ _ h2, if_pos h3]; rfl
  | case2 p h2 h3 ih => rw [subAt, if_pos (by omega), show p + d + sep.size = p + sep.size + d by omega, h.ext _ _ h2, if_neg h3, show p + d + 1 = p + 1 + d by omega]; exact ih
  | case3 p h2 => rw [subAt, if_neg (by omega)]; rfl
theorem Vw.skip (sep : ByteArray) (p : Nat) : skipE s' (lim + d) sep (p + d) = skipE s lim sep p + d := by
  unfold skipE
  rw [h.sub]
  cases subAt s lim sep p with
  | none => rfl
  | some q => show q + d + sep.size = q + sep.size + d; omega
/-- A tag, moved. -/
def mvT (d : Nat) (t : Tok) : Tok := ⟨t.ty, t.name, t.self, if t.ok = true then t.start + d else t.start, t.ok, t.pos + d⟩
omit h in
theorem Vw.other (d : Nat) (i q : Nat) : Tag0.other (i + d) (q + d) = (Tag0.other i q).map (mvT d) := by simp [Tag0.other, mvT]
theorem Vw.body (lower : ByteArray → Option ByteArray) (st : Bool) (i p : Nat) : body lower s' (lim + d) st (i + d) (p + d) = (Tag0.body lower s lim st i p).map (mvT d) := by
  unfold Tag0.body
  by_cases hp : p ≤ lim
  · rw [h.nameE, h.ext _ _ (nameE_ge s lim p hp).2]
    cases lower (s.extract p (Tag0.nameE s lim p)) with
    | none => rfl
    | some n =>
      simp only [Option.bind_some, Option.map_some, h.attrs, mvT, if_true]
      rfl
  · have e1 : Tag0.nameE s lim p = p := by rw [Tag0.nameE, if_neg (by omega)]
    have e2 : Tag0.nameE s' (lim + d) (p + d) = p + d := by rw [Tag0.nameE, if_neg (by omega)]
    have e3 : s.extract p p = ⟨#[]⟩ := by refine ext_bt (by simp; rfl) fun j hj => ?_; simp at hj
    have e4 : s'.extract (p + d) (p + d) = ⟨#[]⟩ := by refine ext_bt (by simp; rfl) fun j hj => ?_; simp at hj
    rw [e1, e2, e3, e4]
    have e5 : Tag0.attrs s lim st p false = (p, false) := by rw [Tag0.attrs, dif_neg (by omega)]
    have e6 : Tag0.attrs s' (lim + d) st (p + d) false = (p + d, false) := by rw [Tag0.attrs, dif_neg (by omega)]
    rw [e5, e6]
    cases lower ⟨#[]⟩ with
    | none => rfl
    | some n => simp [mvT]
theorem Vw.after (lower : ByteArray → Option ByteArray) (i : Nat) (hi : i + 1 < lim) : afterLt lower s' (lim + d) (i + d) = (afterLt lower s lim i).map (·.map (mvT d)) := by
  unfold afterLt
  have e1 : bt s' ((i + d + 1 : Nat) : Int) = bt s ((i + 1 : Nat) : Int) := by rw [show i + d + 1 = i + 1 + d by omega, h.eq _ hi]
  rw [e1, show i + d + 1 = i + 1 + d by omega, show i + d + 4 = i + 4 + d by omega, show i + d + 2 = i + 2 + d by omega, h.ext _ _ (Nat.le_refl _)]
  have e2 : (i + 2 + d < lim + d ∧ ltr (bt s' ((i + 2 + d : Nat) : Int)) = false) ↔ (i + 2 < lim ∧ ltr (bt s ((i + 2 : Nat) : Int)) = false) := by
    constructor
    · rintro ⟨a, b⟩; exact ⟨by omega, by rwa [h.eq _ (by omega)] at b⟩
    · rintro ⟨a, b⟩; exact ⟨by omega, by rwa [h.eq _ a]⟩
  simp only [e2, h.skip, Vw.other, h.body]
  by_cases c1 : bt s ((i + 1 : Nat) : Int) = 33 ∨ bt s ((i + 1 : Nat) : Int) = 63
  · rw [if_pos c1, if_pos c1]
    split
    · simp [Option.map_map, Function.comp_def]
    · split <;> simp [Option.map_map, Function.comp_def]
  · rw [if_neg c1, if_neg c1]
    split
    · split <;> simp [Option.map_map, Function.comp_def]
    · split
      · simp [Option.map_map, Function.comp_def]
      · rfl
theorem Vw.next (lower : ByteArray → Option ByteArray) (p : Nat) : next lower s' (lim + d) (p + d) = (Tag0.next lower s lim p).map (mvT d) := by
  fun_induction Tag0.next lower s lim p with
  | case1 p h1 h2 =>
    rw [Tag0.next, h.find, dif_pos (by omega), h.after lower _ (by omega), h2]; rfl
  | case2 p h1 t h2 =>
    rw [Tag0.next, h.find, dif_pos (by omega), h.after lower _ (by omega), h2]; rfl
  | case3 p h1 h2 ih =>
    rw [Tag0.next, h.find, dif_pos (by omega), h.after lower _ (by omega), h2]
    show Tag0.next lower s' (lim + d) (findB s lim 60 p + d + 1) = _
    rw [show findB s lim 60 p + d + 1 = findB s lim 60 p + 1 + d by omega]; exact ih
  | case4 p h1 =>
    rw [Tag0.next, h.find, dif_neg (by omega)]
    simp [mvT]
omit h

/-! ### what a scanner tells of any text -/
/-- A tag is in order: its kind, where it begins and ends. -/
def Fine (s : ByteArray) (lim p : Nat) (t : Tok) : Prop :=
  p ≤ t.pos ∧ t.pos ≤ lim ∧ (t.ok = true → (p : Int) ≤ t.start ∧ t.start < t.pos ∧ bt s t.start = 60 ∧ 1 ≤ t.ty ∧ t.ty ≤ 3) ∧ (t.ok = false → t.pos = lim ∧ t.start = 0 ∧ t.ty = 0 ∧ t.name = ⟨#[]⟩ ∧ t.self = false)
theorem other_fine {i q p : Nat} {t : Tok} (ho : Tag0.other i q = some t) (h1 : p ≤ i) (h2 : i < q) (h3 : q ≤ lim) (hb : bt s (i : Nat) = 60) : Fine s lim p t := by
  simp only [Tag0.other, Option.some.injEq] at ho
  subst ho
  exact ⟨by show p ≤ q; omega, h3, fun _ => ⟨by show (p : Int) ≤ (i : Int); omega, by show (i : Int) < (q : Int); omega, hb, (show (1 : Int) ≤ 3 by decide), (show (3 : Int) ≤ 3 by decide)⟩, fun e => by cases e⟩
theorem body_fine {lower : ByteArray → Option ByteArray} {i q p : Nat} {st : Bool} {t : Tok} (ho : Tag0.body lower s lim st (i : Nat) q = some t) (h1 : p ≤ i) (h2 : i < q) (h3 : q ≤ lim) (hb : bt s (i : Nat) = 60) : Fine s lim p t := by
  unfold Tag0.body at ho
  cases hl : lower (s.extract q (Tag0.nameE s lim q)) with
  | none => rw [hl] at ho; cases ho
  | some n =>
    rw [hl] at ho
    simp only [Option.bind_some, Option.some.injEq] at ho
    have g1 := nameE_ge s lim q h3
    have g2 := attrs_ge s lim st (Tag0.nameE s lim q) false g1.2
    subst ho
    refine ⟨by show p ≤ (Tag0.attrs s lim st (Tag0.nameE s lim q) false).1; omega, g2.2, fun _ => ⟨by show (p : Int) ≤ (i : Int); omega, by show (i : Int) < ((Tag0.attrs s lim st (Tag0.nameE s lim q) false).1 : Int); omega, hb, ?_, ?_⟩, fun e => by cases e⟩
    · show (1 : Int) ≤ if st then 1 else 2
      cases st <;> decide
    · show (if st then 1 else 2 : Int) ≤ 3
      cases st <;> decide
theorem next_fine {lower : ByteArray → Option ByteArray} {p : Nat} {t : Tok} (hn : Tag0.next lower s lim p = some t) (hp : p ≤ lim) : Fine s lim p t := by
  fun_induction Tag0.next lower s lim p with
  | case1 p h1 h2 => cases hn
  | case2 p h1 t' h2 =>
    cases hn
    have hb : bt s ((findB s lim 60 p : Nat) : Int) = 60 := findB_at (by omega)
    obtain ⟨h3, h4⟩ := h1
    generalize findB s lim 60 p = i at *
    unfold afterLt at h2
    have k1 := skipE_ge s lim ⟨#[45, 45, 62]⟩ (i + 4)
    have k2 := skipE_ge s lim ⟨#[93, 93, 62]⟩ (i + 1) (by omega)
    have k3 := skipE_ge s lim ⟨#[62]⟩ (i + 1) (by omega)
    have mp : ∀ o : Option Tok, o.map some = some (some t) → o = some t := by
      intro o ho; cases o with
      | none => cases ho
      | some x => simp at ho; rw [ho]
    split at h2
    · split at h2
      · rename_i hpre
        have hl : i + 4 ≤ lim ∨ lim < i + 4 := by omega
        rcases hl with hl | hl
        · exact other_fine (mp _ h2) h4 (by have := k1 hl; omega) (k1 hl).2 hb
        · exact absurd hpre (by
            unfold hasPre
            have : ¬ (⟨#[33, 45, 45]⟩ : ByteArray).size ≤ (s.extract (i + 1) lim).size := by
              have z : (⟨#[33, 45, 45]⟩ : ByteArray).size = 3 := rfl
              rw [z]; simp; omega
            rw [decide_eq_false this]; simp)
      · split at h2
        · exact other_fine (mp _ h2) h4 (by omega) k2.2 hb
        · exact other_fine (mp _ h2) h4 (by omega) k3.2 hb
    · split at h2
      · split at h2
        · rename_i hl
          have k4 := skipE_ge s lim ⟨#[62]⟩ (i + 2) (by omega)
          exact other_fine (mp _ h2) h4 (by omega) k4.2 hb
        · exact body_fine (mp _ h2) h4 (by omega) (by omega) hb
      · split at h2
        · exact body_fine (mp _ h2) h4 (by omega) (by omega) hb
        · cases h2
  | case3 p h1 h2 ih =>
    obtain ⟨a, b, c, e⟩ := ih hn (by omega)
    exact ⟨by omega, b, fun ho => by have := c ho; exact ⟨by omega, this.2⟩, e⟩
  | case4 p h1 =>
    cases hn
    exact ⟨hp, Nat.le_refl _, fun e => (by cases e), fun _ => ⟨rfl, rfl, rfl, rfl, rfl⟩⟩
/-- Where each name has its lower case, there is an answer. -/
theorem next_some {lower : ByteArray → Option ByteArray} (ht : ∀ x : ByteArray, x.size ≤ s.size → ∃ r, lower x = some r) (p : Nat) : ∃ t, Tag0.next lower s lim p = some t := by
  have hb : ∀ st i q, ∃ t, Tag0.body lower s lim st i q = some t := by
    intro st i q
    obtain ⟨r, hr⟩ := ht (s.extract q (Tag0.nameE s lim q)) (by simp; omega)
    exact ⟨_, by unfold Tag0.body; rw [hr]; rfl⟩
  fun_induction Tag0.next lower s lim p with
  | case1 p h1 h2 =>
    exfalso
    unfold afterLt Tag0.other at h2
    repeat' split at h2
    all_goals first
      | (simp at h2; done)
      | (obtain ⟨t, e⟩ := hb false (findB s lim 60 p : Nat) (findB s lim 60 p + 2); rw [e] at h2; simp at h2; done)
      | (obtain ⟨t, e⟩ := hb true (findB s lim 60 p : Nat) (findB s lim 60 p + 1); rw [e] at h2; simp at h2)
  | case2 p h1 t h2 => exact ⟨t, rfl⟩
  | case3 p h1 h2 ih => exact ih
  | case4 p h1 => exact ⟨_, rfl⟩
end Go.Proofs.YthjddnmfpdcjnaaDoor.TagV
namespace Go.Proofs.YthjddnmfpdcjnaaDoor.LawD
open Go.Rx hiding bt
open Go.RowKit Go.Proofs.YthjddnmfpdcjnaaDoorW.PrintWords Go.Proofs.YthjddnmfpdcjnaaDoor.Lib0 Go.Proofs.YthjddnmfpdcjnaaDoor.Tag0 Go.Proofs.YthjddnmfpdcjnaaDoor.NextW Go.Proofs.YthjddnmfpdcjnaaDoor.PL6 Go.Proofs.YthjddnmfpdcjnaaDoor.Has0L6 Go.Proofs.YthjddnmfpdcjnaaDoor.LawA Go.Proofs.YthjddnmfpdcjnaaDoor.LawB Go.Proofs.YthjddnmfpdcjnaaDoor.TxtA Go.Proofs.YthjddnmfpdcjnaaDoor.LawC Go.Proofs.YthjddnmfpdcjnaaDoor.TagV

/-! ### where what was told lies -/
def ToldAt (w : World) (A : Option Addr) (l : List NextW.Told) : Prop := ∀ (j : Nat) x, l[j]? = some x → ∃ ad, A = some ad ∧ ∀ (k : Nat) v, x.cells[k]? = some v → w.cell? ((ad.add (j * 6)).add k) = some v
theorem told_cells (l : List NextW.Told) : ∀ (j : Nat) (x : NextW.Told) (k : Nat) (v : Value), l[j]? = some x → x.cells[k]? = some v → (l.flatMap NextW.Told.cells)[j * 6 + k]? = some v := by
  induction l with
  | nil => intro j x k v h; simp at h
  | cons y l ih =>
    intro j x k v h hk
    have hl : y.cells.length = 6 := rfl
    have hk3 : k < 6 := by
      have := (List.getElem?_eq_some_iff.1 hk).1
      simpa [NextW.Told.cells] using this
    rw [List.flatMap_cons]
    cases j with
    | zero =>
      simp only [List.getElem?_cons_zero, Option.some.injEq] at h
      subst h
      rw [List.getElem?_append_left (by omega)]
      simpa using hk
    | succ j =>
      simp only [List.getElem?_cons_succ] at h
      rw [List.getElem?_append_right (by omega), hl, show (j + 1) * 6 + k - 6 = j * 6 + k by omega]
      exact ih j x k v h hk
theorem told_of_row {m : Mem} {w : World} {row : Row} {l : List NextW.Told} {B : Nat} (hw : Has m w) (hm : ∀ x ∈ row.mem (l.flatMap NextW.Told.cells) 32, x ∈ m) (hok : row.ok B 6 l.length (l.flatMap NextW.Told.cells)) : ∃ A c, row.val l.length = .slice A l.length c ∧ ToldAt w A l := by
  cases row with
  | nil =>
    obtain ⟨h1, h2⟩ := hok
    refine ⟨none, 0, by rw [h1]; rfl, fun j x hx => ?_⟩
    rw [List.length_eq_zero_iff.1 h1] at hx
    simp at hx
  | «at» g cap rr =>
    refine ⟨some ⟨g, 0, none⟩, cap, rfl, fun j x hx => ⟨_, rfl, fun k v hk => ?_⟩⟩
    have hadd : ((⟨g, 0, none⟩ : Addr).add (j * 6)).add k = ⟨g, j * 6 + k, none⟩ := by
      unfold Addr.add
      split <;> split <;> simp_all
    rw [hadd]
    have hm := hw.blk (g, l.flatMap NextW.Told.cells ++ rr, 32) (hm _ (by simp [Row.mem]))
    have hc := told_cells l j x k v hx hk
    simp only [World.cell?, hm]
    rw [List.getElem?_toArray, List.getElem?_append_left (List.getElem?_eq_some_iff.1 hc).1, hc]
    simp

/-! ### facts of the program's tables -/
theorem si32 : (Tryd.prog.info? 32).map (·.size) = some 6 := by kernel_rfl
theorem eg32 : Tryd.prog.eqGuardType Tryd.prog.depth 32 = false := by kernel_rfl
theorem ee32 (a : Int) (b : ByteArray) (c : Bool) (d : Int) (e : Bool) (f : Int) (a' : Int) (b' : ByteArray) (c' : Bool) (d' : Int) (e' : Bool) (f' : Int) : eqE Tryd.prog 10000 32 (.agg [.int .i64 a, .string b, .bool c, .int .i64 d, .bool e, .int .i64 f].toArray) (.agg [.int .i64 a', .string b', .bool c', .int .i64 d', .bool e', .int .i64 f'].toArray) = some ((decide (a = a') && (decide (b = b') && ((c == c') && (decide (d = d') && true)))) && ((e == e') && (decide (f = f') && true))) := by kernel_rfl
theorem es32 (a : Int) (b : ByteArray) (c : Bool) (d : Int) (e : Bool) (f : Int) : eqE Tryd.prog 10000 32 (.agg [.int .i64 a, .string b, .bool c, .int .i64 d, .bool e, .int .i64 f].toArray) (.agg [.int .i64 a, .string b, .bool c, .int .i64 d, .bool e, .int .i64 f].toArray) = some true := by rw [ee32]; simp
end Go.Proofs.YthjddnmfpdcjnaaDoor.LawD
