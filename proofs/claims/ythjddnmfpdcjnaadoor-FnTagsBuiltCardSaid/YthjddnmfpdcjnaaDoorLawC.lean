/- What impl.Tags tells of texts that are built of pieces: a comment, character data, a tag without its end, raw text and its end tag. No walk. -/
import Derived.Test.YthjddnmfpdcjnaaDoorLawB
import Derived.Test.YthjddnmfpdcjnaaDoorTxtA
import Derived.Test.YthjddnmfpdcjnaaDoorOwnLow
import Derived.Test.YthjddnmfpdcjnaaDoorRx
set_option linter.unusedVariables false
namespace Go.Proofs.YthjddnmfpdcjnaaDoor.LawC
open Go.Rx hiding bt
open Go.RowKit Go.Proofs.YthjddnmfpdcjnaaDoorW.PrintWords Go.Proofs.YthjddnmfpdcjnaaDoor.Lib0 Go.Proofs.YthjddnmfpdcjnaaDoor.Tag0 Go.Proofs.YthjddnmfpdcjnaaDoor.NextW Go.Proofs.YthjddnmfpdcjnaaDoor.Has0L6 Go.Proofs.YthjddnmfpdcjnaaDoor.LawA Go.Proofs.YthjddnmfpdcjnaaDoor.LawB Go.Proofs.YthjddnmfpdcjnaaDoor.TxtA

variable {lower : ByteArray → Option ByteArray} {fold : ByteArray → ByteArray → Option Bool}

/-! ### the library's functions, as a script wants them -/
theorem hlow (S : Nat → Prop) (w0 : World) : ∀ x r, strings_ToLower.f x = some r → ∀ w', Evo S w0 w' → Calls Tryd.prog 41 #[.string x] w' fun e w'' => e = .returned (.string r) ∧ Below w'.heap.size w' w'' :=
  fun x r h w' _ => strings_ToLower.calls x r w' h
theorem hfold : ∀ x y b, strings_EqualFold.f x y = some b → ∀ w', Calls Tryd.prog 43 #[.string x, .string y] w' fun e w'' => e = .returned (.bool b) ∧ w'' = w' := by
  intro a0 a1 r h w'
  unfold strings_EqualFold.f at h
  split at h
  · rename_i h1
    split at h
    · rename_i h2
      split at h
      · rename_i h3
        cases h
        exact Tryd.strings_EqualFold a0 a1 w' h1 ((asciiB_iff _).1 h2) ((asciiB_iff _).1 h3)
      · cases h
    · cases h
  · cases h
theorem allL_of {s : ByteArray} (h : lettersE s 0 = true) : allL s := fun j hj => lettersE_all h j (Nat.zero_le _) hj
theorem ltr_range {c : Int} (h : ltr c = true) : 65 ≤ c ∧ c ≤ 122 := by
  unfold ltr at h
  simp only [Bool.or_eq_true, Bool.and_eq_true, decide_eq_true_eq] at h
  omega
theorem byte_bt {s : ByteArray} {j : Nat} {b : UInt8} (h : s.data.toList[j]? = some b) : bt s (j : Nat) = (b.toNat : Int) ∧ j < s.size := by
  obtain ⟨h1, h2⟩ := List.getElem?_eq_some_iff.1 h
  rw [bt_list, Int.toNat_natCast, Lib0.getD_in _ _ _ h1, h2]
  exact ⟨rfl, by rwa [size_len] at h1⟩
theorem ascii_of {s : ByteArray} (h : allL s) : asciiB s = true := by
  rw [asciiB_iff]
  intro j b hb
  obtain ⟨h1, h2⟩ := byte_bt hb
  have := ltr_range (h j h2)
  omega
theorem low_byte : ∀ c : Fin 256, (!(ltr (c.val : Int)) || decide (UInt8.ofNat (lowO (c.val : Int)).toNat = Lib.lowerB (UInt8.ofNat c.val))) = true := by decide +kernel
theorem lower_low {s : ByteArray} (h : allL s) (hs : s.size ≤ 140737488355328) : strings_ToLower.f s = some (lowB s) := by
  unfold strings_ToLower.f
  rw [if_pos hs, if_pos (ascii_of h)]
  congr 1
  refine bytes_ext ?_
  show Lib.toLowerA s.data.toList = _
  unfold lowB
  rw [strOfNums_data]
  unfold Lib.toLowerA bytesOf
  rw [List.map_map, List.map_map]
  refine List.map_congr_left fun b hb => ?_
  obtain ⟨j, hj⟩ := List.getElem?_of_mem hb
  obtain ⟨h1, h2⟩ := byte_bt hj
  have h3 := h j h2
  rw [h1] at h3
  have := low_byte ⟨b.toNat, b.toNat_lt⟩
  simp only [h3, Bool.not_true, Bool.false_or, decide_eq_true_eq] at this
  simp only [Function.comp]
  rw [this]
  simp
theorem foldEq_refl : ∀ b : UInt8, Lib.foldEq b b = true := by
  intro b
  have : ∀ c : Fin 256, Lib.foldEq (UInt8.ofNat c.val) (UInt8.ofNat c.val) = true := by decide +kernel
  simpa using this ⟨b.toNat, b.toNat_lt⟩
theorem fold_self {s : ByteArray} (h : allL s) (hs : s.size < 4294967281) : strings_EqualFold.f s s = some true := by
  unfold strings_EqualFold.f
  rw [if_pos hs, if_pos (ascii_of h), if_pos (ascii_of h)]
  congr 1
  induction s.data.toList with
  | nil => rfl
  | cons x l ih => rw [Lib.equalFold, foldEq_refl, ih]; rfl

/-! ### steps -/
theorem step_next {s : ByteArray} {lim p : Nat} {t : Tok} (nm : ByteArray) (h1 : p ≤ lim) (h2 : lim ≤ s.size) (h : next lower s lim p = some t) : step1 lower fold s p ⟨0, lim, nm⟩ = some ⟨t.ty, t.name, t.self, t.start, t.ok, t.pos⟩ := by
  unfold step1
  rw [if_pos (show (⟨0, lim, nm⟩ : Step).act = 0 from rfl), if_pos (show (p : Int) ≤ (lim : Int) ∧ (lim : Int) ≤ (s.size : Int) by omega)]
  show (next lower s lim p).map _ = _
  rw [h]; rfl
theorem step_skip {s : ByteArray} {lim p q : Nat} {nm : ByteArray} (h1 : p ≤ lim) (h2 : lim ≤ s.size) (h : skipRaw fold s lim nm p = some q) : step1 lower fold s p ⟨1, lim, nm⟩ = some ⟨0, ⟨#[]⟩, false, 0, false, q⟩ := by
  unfold step1
  rw [if_neg (show ¬ ((1 : Int) = 0) by decide), if_pos rfl, if_pos (show (p : Int) ≤ (lim : Int) ∧ (lim : Int) ≤ (s.size : Int) by omega)]
  show (skipRaw fold s lim nm p).map _ = _
  rw [h]; rfl
theorem tags_one {s : ByteArray} {p : Nat} {x : Step} {t : NextW.Told} (h : step1 lower fold s p x = some t) : tags lower fold s p [x] = some [t] := by
  simp only [tags, h, Option.map_some]
theorem tags_cons {s : ByteArray} {p : Nat} {x : Step} {l : List Step} {t : NextW.Told} {r : List NextW.Told} (h : step1 lower fold s p x = some t) (hr : tags lower fold s t.pos l = some r) : tags lower fold s p (x :: l) = some (t :: r) := by
  simp only [tags, h, hr, Option.map_some]
theorem next_at {s : ByteArray} {lim p i : Nat} {t : Tok} (hf : findB s lim 60 p = i) (h1 : i + 1 < lim) (hp : p ≤ i) (ha : afterLt lower s lim i = some (some t)) : next lower s lim p = some t := by
  rw [next, hf, dif_pos ⟨h1, hp⟩, ha]

/-! ### a comment, character data -/
theorem at_lit {s t u : ByteArray} {i j : Nat} (h : At s t i) (hj : j + u.size ≤ t.size) (hk : ∀ q : Nat, q < u.size → bt t ((j + q : Nat) : Int) = bt u (q : Nat)) : At s u (i + j) := h.trans ⟨hj, hk⟩
theorem at_byte {s t : ByteArray} {i : Nat} (h : At s t i) (j : Nat) (hj : j < t.size) {c : Int} (hc : bt t (j : Nat) = c) : bt s ((i + j : Nat) : Int) = c := by rw [h.eq j hj, hc]
def cOpen : ByteArray := ⟨#[60, 33, 45, 45]⟩
def cEnd : ByteArray := ⟨#[45, 45, 62]⟩
theorem toldC {s u a0 a1 a2 : ByteArray} (hs : s = u ++ a2) (hu : u = a0 ++ ⟨#[60, 33, 45, 45]⟩ ++ a1 ++ ⟨#[45, 45, 62]⟩) (ha : hasB a0 ⟨#[60]⟩ = false) (hi : hasB a1 ⟨#[45, 45]⟩ = false) (he : 0 < a1.size → bt a1 ((a1.size : Int) - 1) ≠ 45) :
    tags lower fold s 0 [stepAll s] = some [⟨3, ⟨#[]⟩, false, a0.size, true, u.size⟩] := by
  have z1 : (⟨#[60, 33, 45, 45]⟩ : ByteArray).size = 4 := rfl
  have z2 : (⟨#[45, 45, 62]⟩ : ByteArray).size = 3 := rfl
  have hz : u.size = a0.size + 4 + a1.size + 3 := by rw [hu]; simp only [ByteArray.size_append, z1, z2]
  have A : At s (u ++ a2) 0 := by rw [← hs]; exact At.self s
  have U := A.left
  rw [hu] at U
  have E := U.right
  have I := U.left.right
  have O := U.left.left.right
  have B := U.left.left.left
  simp only [ByteArray.size_append, Nat.zero_add, z1] at E I O
  have hl := E.le
  rw [z2] at hl
  have f0 : findB s s.size 60 0 = a0.size := by
    have := find_in (s := s) (lim := s.size) (c := 60) B (by omega) (hasB_not ha) (fun _ => by rw [Nat.zero_add]; exact at_byte O 0 (by decide) rfl)
    rwa [Nat.zero_add] at this
  have b1 : bt s ((a0.size + 1 : Nat) : Int) = 33 := at_byte O 1 (by decide) rfl
  have P : At s ⟨#[33, 45, 45]⟩ (a0.size + 1) := at_lit O (by decide) (fun q hq => by
    have hq : q < 3 := hq
    match q, hq with
    | 0, _ => rfl
    | 1, _ => rfl
    | 2, _ => rfl)
  have sk : skipE s s.size ⟨#[45, 45, 62]⟩ (a0.size + 4) = u.size := by
    rw [skip_first (q := a0.size + 4 + a1.size) (Nat.le_refl _) E (by omega) (by rw [z2]; omega) ?_, z2, hz]
    intro j h1 h2 hj
    have c0 := at_byte hj 0 (by decide) (c := 45) rfl
    have c1 := at_byte hj 1 (by decide) (c := 45) rfl
    rw [Nat.add_zero] at c0
    rw [I.get j h1 (by omega)] at c0
    by_cases hl : j + 1 < a0.size + 4 + a1.size
    · rw [I.get (j + 1) (by omega) hl] at c1
      refine hasB_not hi (j - (a0.size + 4)) (hasAt_iff.2 ⟨by show _ + 2 ≤ _; omega, fun q hq => ?_⟩)
      have hq : q < 2 := hq
      match q, hq with
      | 0, _ => exact c0
      | 1, _ => rw [show j - (a0.size + 4) + 1 = j + 1 - (a0.size + 4) by omega]; exact c1
    · refine he (by omega) ?_
      rw [← c0]
      congr 1
      omega
  refine tags_one (step_next ⟨#[]⟩ (Nat.zero_le _) (Nat.le_refl _) (next_at f0 (by omega) (Nat.zero_le _) ?_) (t := ⟨3, ⟨#[]⟩, false, a0.size, true, u.size⟩))
  unfold afterLt
  rw [if_pos (.inl b1), if_pos (pre_at P (by show _ + 3 ≤ _; omega) (Nat.le_refl _)), sk]
  rfl
theorem toldD {s u a0 a1 a2 : ByteArray} (hs : s = u ++ a2) (hu : u = a0 ++ ⟨#[60, 33, 91, 67, 68, 65, 84, 65, 91]⟩ ++ a1 ++ ⟨#[93, 93, 62]⟩) (ha : hasB a0 ⟨#[60]⟩ = false) (hi : hasB a1 ⟨#[93]⟩ = false) :
    tags lower fold s 0 [stepAll s] = some [⟨3, ⟨#[]⟩, false, a0.size, true, u.size⟩] := by
  have z1 : (⟨#[60, 33, 91, 67, 68, 65, 84, 65, 91]⟩ : ByteArray).size = 9 := rfl
  have z2 : (⟨#[93, 93, 62]⟩ : ByteArray).size = 3 := rfl
  have hz : u.size = a0.size + 9 + a1.size + 3 := by rw [hu]; simp only [ByteArray.size_append, z1, z2]
  have A : At s (u ++ a2) 0 := by rw [← hs]; exact At.self s
  have U := A.left
  rw [hu] at U
  have E := U.right
  have I := U.left.right
  have O := U.left.left.right
  have B := U.left.left.left
  simp only [ByteArray.size_append, Nat.zero_add, z1] at E I O
  have hl := E.le
  rw [z2] at hl
  have f0 : findB s s.size 60 0 = a0.size := by
    have := find_in (s := s) (lim := s.size) (c := 60) B (by omega) (hasB_not ha) (fun _ => by rw [Nat.zero_add]; exact at_byte O 0 (by decide) rfl)
    rwa [Nat.zero_add] at this
  have b1 : bt s ((a0.size + 1 : Nat) : Int) = 33 := at_byte O 1 (by decide) rfl
  have b2 : bt s ((a0.size + 1 + 1 : Nat) : Int) = 91 := at_byte O 2 (by decide) rfl
  have P : At s ⟨#[33, 91, 67, 68, 65, 84, 65, 91]⟩ (a0.size + 1) := at_lit O (by decide) (fun q hq => by
    have hq : q < 8 := hq
    match q, hq with
    | 0, _ => rfl
    | 1, _ => rfl
    | 2, _ => rfl
    | 3, _ => rfl
    | 4, _ => rfl
    | 5, _ => rfl
    | 6, _ => rfl
    | 7, _ => rfl)
  have sk : skipE s s.size ⟨#[93, 93, 62]⟩ (a0.size + 1) = u.size := by
    rw [skip_first (q := a0.size + 9 + a1.size) (Nat.le_refl _) E (by omega) (by rw [z2]; omega) ?_, z2, hz]
    intro j h1 h2 hj
    have c0 := at_byte hj 0 (by decide) (c := 93) rfl
    rw [Nat.add_zero] at c0
    by_cases hl : j < a0.size + 9
    · rw [O.get j (by omega) (by rw [z1]; omega)] at c0
      have hq : j - a0.size < 9 := by omega
      have hq2 : 1 ≤ j - a0.size := by omega
      generalize j - a0.size = q at c0 hq hq2
      match q, hq, hq2 with
      | 1, _, _ => exact absurd c0 (by decide)
      | 2, _, _ => exact absurd c0 (by decide)
      | 3, _, _ => exact absurd c0 (by decide)
      | 4, _, _ => exact absurd c0 (by decide)
      | 5, _, _ => exact absurd c0 (by decide)
      | 6, _, _ => exact absurd c0 (by decide)
      | 7, _, _ => exact absurd c0 (by decide)
      | 8, _, _ => exact absurd c0 (by decide)
    · rw [I.get j (by omega) (by omega)] at c0
      exact hasB_not hi (j - (a0.size + 9)) ((hasAt_byte a1 93 _).2 ⟨by omega, c0⟩)
  refine tags_one (step_next ⟨#[]⟩ (Nat.zero_le _) (Nat.le_refl _) (next_at f0 (by omega) (Nat.zero_le _) ?_) (t := ⟨3, ⟨#[]⟩, false, a0.size, true, u.size⟩))
  unfold afterLt
  rw [if_pos (.inl b1), if_neg (by rw [pre_not (j := 1) (by decide) (Nat.le_refl _) (by rw [b2]; decide)]; simp), if_pos (pre_at P (by show _ + 8 ≤ _; omega) (Nat.le_refl _)), sk]
  rfl

/-! ### a tag without its end -/
theorem lt33 {c : Int} (h : ltr c = true) : ¬ (c = 33 ∨ c = 63) ∧ ¬ c = 47 := by
  have := ltr_range h
  omega
theorem toldU {s a0 a1 a2 : ByteArray} (hs : s = a0 ++ ⟨#[60]⟩ ++ a1 ++ ⟨#[32]⟩ ++ a2) (hz : s.size ≤ 140737488355328) (h0 : 0 < a1.size) (hl : allL a1) (ha : hasB a0 ⟨#[60]⟩ = false) (h1 : hasB a2 ⟨#[62]⟩ = false) (h2 : hasB a2 ⟨#[34]⟩ = false) (h3 : hasB a2 ⟨#[39]⟩ = false) :
    ∃ self, tags strings_ToLower.f fold s 0 [stepAll s] = some [⟨1, lowB a1, self, a0.size, true, s.size⟩] := by
  have z1 : (⟨#[60]⟩ : ByteArray).size = 1 := rfl
  have z2 : (⟨#[32]⟩ : ByteArray).size = 1 := rfl
  have hsz : s.size = a0.size + 1 + a1.size + 1 + a2.size := by rw [hs]; simp only [ByteArray.size_append, z1, z2]
  have A : At s (a0 ++ ⟨#[60]⟩ ++ a1 ++ ⟨#[32]⟩ ++ a2) 0 := by rw [← hs]; exact At.self s
  have R := A.right
  have S := A.left.right
  have M := A.left.left.right
  have O := A.left.left.left.right
  have B := A.left.left.left.left
  simp only [ByteArray.size_append, Nat.zero_add, z1, z2] at R S M O
  have f0 : findB s s.size 60 0 = a0.size := by
    have := find_in (s := s) (lim := s.size) (c := 60) B (by omega) (hasB_not ha) (fun _ => by rw [Nat.zero_add]; exact at_byte O 0 (by decide) rfl)
    rwa [Nat.zero_add] at this
  have b1 : ltr (bt s ((a0.size + 1 : Nat) : Int)) = true := by
    have := hl 0 h0
    rw [← M.eq 0 h0, Nat.add_zero] at this
    exact this
  obtain ⟨c1, c2⟩ := lt33 b1
  have ne : nameE s s.size (a0.size + 1) = a0.size + 1 + a1.size := nameE_at M (by omega) hl (by rw [show a0.size + 1 + a1.size = a0.size + 1 + a1.size + 0 from rfl, at_byte S 0 (by decide) (c := 32) rfl]; rfl)
  have ae := attrs_end (s := s) (lim := s.size) (st := true) (p := a0.size + 1 + a1.size) (self := false) (by omega) (fun j h4 h5 => by
    by_cases hj : j = a0.size + 1 + a1.size
    · subst hj
      have := at_byte S 0 (by decide) (c := 32) rfl
      rw [Nat.add_zero] at this
      rw [this]; decide
    · rw [R.get j (by omega) (by omega)]
      exact ⟨fun e => hasB_not h1 _ ((hasAt_byte a2 62 _).2 ⟨by omega, e⟩), fun e => hasB_not h2 _ ((hasAt_byte a2 34 _).2 ⟨by omega, e⟩), fun e => hasB_not h3 _ ((hasAt_byte a2 39 _).2 ⟨by omega, e⟩)⟩)
  refine ⟨(attrs s s.size true (a0.size + 1 + a1.size) false).2, tags_one (step_next ⟨#[]⟩ (Nat.zero_le _) (Nat.le_refl _) (next_at f0 (by omega) (Nat.zero_le _) ?_) (t := ⟨1, lowB a1, (attrs s s.size true (a0.size + 1 + a1.size) false).2, a0.size, true, s.size⟩))⟩
  unfold afterLt body
  rw [if_neg c1, if_neg c2, if_pos b1, ne, M.ext rfl, lower_low hl (by omega)]
  simp only [Option.bind_some, Option.map_some, ae, if_true]

/-! ### raw text and its end tag -/
theorem attrs_gt {s : ByteArray} {lim p : Nat} {st self : Bool} (h : p < lim) (hb : bt s (p : Nat) = 62) : attrs s lim st p self = (p + 1, self) := by
  rw [attrs, dif_pos h, if_pos hb]
theorem toldR {s a0 a1 a2 : ByteArray} (hs : s = a0 ++ ⟨#[60, 47]⟩ ++ a1 ++ ⟨#[62]⟩ ++ a2) (hz : s.size < 4294967281) (h0 : 0 < a1.size) (hl : allL a1) (ha : hasB a0 ⟨#[60, 47]⟩ = false) :
    tags strings_ToLower.f strings_EqualFold.f s 0 [⟨1, s.size, a1⟩, ⟨0, s.size, ⟨#[]⟩⟩] = some [⟨0, ⟨#[]⟩, false, 0, false, a0.size⟩, ⟨2, lowB a1, false, a0.size, true, a0.size + a1.size + 3⟩] := by
  have z1 : (⟨#[60, 47]⟩ : ByteArray).size = 2 := rfl
  have z2 : (⟨#[62]⟩ : ByteArray).size = 1 := rfl
  have hsz : s.size = a0.size + 2 + a1.size + 1 + a2.size := by rw [hs]; simp only [ByteArray.size_append, z1, z2]
  have A : At s (a0 ++ ⟨#[60, 47]⟩ ++ a1 ++ ⟨#[62]⟩ ++ a2) 0 := by rw [← hs]; exact At.self s
  have S := A.left.right
  have M := A.left.left.right
  have O := A.left.left.left.right
  have B := A.left.left.left.left
  simp only [ByteArray.size_append, Nat.zero_add, z1, z2] at S M O
  have o0 : bt s ((a0.size : Nat) : Int) = 60 := at_byte O 0 (by decide) rfl
  have o1 : bt s ((a0.size + 1 : Nat) : Int) = 47 := at_byte O 1 (by decide) rfl
  have g0 : bt s ((a0.size + 2 + a1.size : Nat) : Int) = 62 := at_byte S 0 (by decide) rfl
  have sk : skipE s s.size ⟨#[60, 47]⟩ 0 = a0.size + 2 := by
    rw [skip_first (q := a0.size) (Nat.le_refl _) O (Nat.zero_le _) (by rw [z1]; omega) ?_, z1]
    intro j h1 h2 hj
    have c0 := at_byte hj 0 (by decide) (c := 60) rfl
    have c1 := at_byte hj 1 (by decide) (c := 47) rfl
    rw [Nat.add_zero] at c0
    by_cases hl : j + 1 < a0.size
    · rw [B.get j (by omega) (by omega)] at c0
      rw [B.get (j + 1) (by omega) (by omega)] at c1
      refine hasB_not ha j (hasAt_iff.2 ⟨by show _ + 2 ≤ _; omega, fun q hq => ?_⟩)
      have hq : q < 2 := hq
      match q, hq with
      | 0, _ => exact c0
      | 1, _ => exact c1
    · rw [show j + 1 = a0.size by omega, o0] at c1
      exact absurd c1 (by decide)
  have e1 : (s.extract (a0.size + 2) s.size).size = s.size - (a0.size + 2) := by simp
  have e2 : (s.extract (a0.size + 2) s.size).extract 0 a1.size = a1 := by
    refine ext_bt (by simp; omega) fun j hj => ?_
    have hj2 : j < a1.size := by simp at hj; omega
    rw [bt_extract _ _ _ _ (by omega) (by omega) (by omega), bt_extract _ _ _ _ (by omega) (by omega) (by omega), ← M.eq j hj2]
    congr 1; omega
  have e3 : bt (s.extract (a0.size + 2) s.size) (a1.size : Nat) = 62 := by
    rw [bt_extract _ _ _ _ (by omega) (by omega) (by omega), ← g0]
    congr 1
  have rw1 : skipRaw strings_EqualFold.f s s.size a1 0 = some a0.size := by
    rw [skipRaw, sk, dif_pos (by omega), if_pos (by omega), e2, fold_self hl (by omega), e3]
    rfl
  have f0 : findB s s.size 60 a0.size = a0.size := findB_eq (Nat.le_refl _) (by omega) (fun j h1 h2 => by omega) (fun _ => o0)
  have b1 : ltr (bt s ((a0.size + 2 : Nat) : Int)) = true := by
    have := hl 0 h0
    rw [← M.eq 0 h0, Nat.add_zero] at this
    exact this
  have ne : nameE s s.size (a0.size + 2) = a0.size + 2 + a1.size := nameE_at M (by omega) hl (by rw [g0]; rfl)
  refine tags_cons (step_skip (Nat.zero_le _) (Nat.le_refl _) rw1) (tags_one (step_next (t := ⟨2, lowB a1, false, a0.size, true, a0.size + a1.size + 3⟩) _ (by show a0.size ≤ _; omega) (Nat.le_refl _) (next_at f0 (by omega) (Nat.le_refl _) ?_)))
  unfold afterLt body
  rw [if_neg (by rw [o1]; decide), if_pos o1, if_neg (by rw [b1]; simp), ne, M.ext rfl, lower_low hl (by omega)]
  simp only [Option.bind_some, Option.map_some, attrs_gt (s := s) (lim := s.size) (p := a0.size + 2 + a1.size) (st := false) (self := false) (by omega) g0]
  rw [show a0.size + 2 + a1.size + 1 = a0.size + a1.size + 3 by omega]
  rfl

/-! ### facts of the program's tables -/
theorem ag30 : aggB Tryd.prog 30 4 = true := by kernel_rfl
theorem bu30a (a b : Int) : Tryd.prog.built 30 [(0, .int .i64 a), (3, .int .i64 b)] = some [.int .i64 a, .string ⟨#[]⟩, .bool false, .int .i64 b].toArray := by kernel_rfl
theorem bu30b (a : Int) (c : ByteArray) (b : Int) : Tryd.prog.built 30 [(0, .int .i64 a), (1, .string c), (3, .int .i64 b)] = some [.int .i64 a, .string c, .bool false, .int .i64 b].toArray := by kernel_rfl
theorem bu27a (b : Int) : Tryd.prog.built 27 [(1, .int .i64 b)] = some [.int .i64 0, .int .i64 b, .string ⟨#[]⟩].toArray := by kernel_rfl
theorem bu27b (a b : Int) (c : ByteArray) : Tryd.prog.built 27 [(0, .int .i64 a), (1, .int .i64 b), (2, .string c)] = some [.int .i64 a, .int .i64 b, .string c].toArray := by kernel_rfl
theorem eg30 : Tryd.prog.eqGuardType Tryd.prog.depth 30 = false := by kernel_rfl
theorem fb30_0 : fieldB Tryd.prog 30 0 = some 0 := by kernel_rfl
theorem fb30_1 : fieldB Tryd.prog 30 1 = some 1 := by kernel_rfl
theorem fb30_2 : fieldB Tryd.prog 30 2 = some 2 := by kernel_rfl
theorem fb30_3 : fieldB Tryd.prog 30 3 = some 3 := by kernel_rfl
theorem ee30 (a : Int) (b : ByteArray) (c : Bool) (d : Int) (a' : Int) (b' : ByteArray) (c' : Bool) (d' : Int) : eqE Tryd.prog 10000 30 (.agg [.int .i64 a, .string b, .bool c, .int .i64 d].toArray) (.agg [.int .i64 a', .string b', .bool c', .int .i64 d'].toArray) = some (decide (a = a') && (decide (b = b') && ((c == c') && (decide (d = d') && true)))) := by kernel_rfl
theorem es30 (a : Int) (b : ByteArray) (c : Bool) (d : Int) : eqE Tryd.prog 10000 30 (.agg [.int .i64 a, .string b, .bool c, .int .i64 d].toArray) (.agg [.int .i64 a, .string b, .bool c, .int .i64 d].toArray) = some true := by rw [ee30]; simp
theorem bo19 : bodyB Tryd.prog 19 = true := by kernel_rfl
theorem lowC (s : ByteArray) (hs : s.size ≤ 140737488355328) (X : Cx) (m : Mem) : ∀ w, Cl X m w → Calls Tryd.prog 19 #[.string s] w fun e w' => e = .returned (.string (lowB s)) ∧ Cl X m w' :=
  quietC fun w _ => laws_low_any s hs w
theorem lowB_size (s : ByteArray) : (lowB s).size = s.size := by unfold lowB; rw [strOfNums_size, List.length_map, bytesOf_length]
theorem pos_of {a : ByteArray} (h : ¬ a = ⟨#[]⟩) : 0 < a.size := by
  rcases Nat.eq_zero_or_pos a.size with e | e
  · exact absurd (ByteArray.ext (Array.eq_empty_of_size_eq_zero e)) h
  · exact e
end Go.Proofs.YthjddnmfpdcjnaaDoor.LawC
