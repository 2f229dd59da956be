/- What the callees of the scanner of tags answer, in the scanner's own words. -/
import Derived.Test.YthjddnmfpdcjnaaDoorTag0
import Derived.Test.YthjddnmfpdcjnaaDoorOwnTags
import Derived.Test.YthjddnmfpdcjnaaDoorPLib6x1
import Derived.Test.YthjddnmfpdcjnaaDoorRx
set_option linter.unusedVariables false
namespace Go.Proofs.YthjddnmfpdcjnaaDoor.TagC
open Go.Rx hiding bt
open Go.RowKit Go.Proofs.YthjddnmfpdcjnaaDoorW.PrintWords Go.Proofs.YthjddnmfpdcjnaaDoor.Lib0 Go.Proofs.YthjddnmfpdcjnaaDoor.Tag0 Go.Proofs.YthjddnmfpdcjnaaDoor.PLib6

theorem isSpace_f (c : Int) : hhtml_isSpace.f c = some (spc c) := by
  unfold hhtml_isSpace.f spc
  repeat' split
  all_goals simp_all
theorem nend_f (c : Int) : hhtml_isTagNameEnd.f c = some (nend c) := by
  unfold hhtml_isTagNameEnd.f nend
  rw [isSpace_f]
  simp only [Option.bind_some]
  repeat' split
  all_goals simp_all
theorem ltr_f (c : Int) : hhtml_isASCIILetter.f c = some (ltr c) := by
  unfold hhtml_isASCIILetter.f ltr
  repeat' split
  all_goals (congr 1; simp_all <;> omega)
theorem spaceC (X : Cx) (m : Mem) (c : Int) : ∀ w, Cl X m w → Calls Tryd.prog 42 #[.int .u8 c] w fun e w' => e = .returned (.bool (spc c)) ∧ Cl X m w' :=
  quietC fun w _ => (hhtml_isSpace.calls c _ w (isSpace_f c)).mono fun e w' ⟨he, hd⟩ => ⟨he, hd.below⟩
theorem nendC (X : Cx) (m : Mem) (c : Int) : ∀ w, Cl X m w → Calls Tryd.prog 40 #[.int .u8 c] w fun e w' => e = .returned (.bool (nend c)) ∧ Cl X m w' :=
  quietC fun w _ => (hhtml_isTagNameEnd.calls c _ w (nend_f c)).mono fun e w' ⟨he, hd⟩ => ⟨he, hd.below⟩
theorem ltrC (X : Cx) (m : Mem) (c : Int) : ∀ w, Cl X m w → Calls Tryd.prog 39 #[.int .u8 c] w fun e w' => e = .returned (.bool (ltr c)) ∧ Cl X m w' :=
  quietC fun w _ => (hhtml_isASCIILetter.calls c _ w (ltr_f c)).mono fun e w' ⟨he, hd⟩ => ⟨he, hd.below⟩
theorem hasPre_f (x y : ByteArray) : strings_HasPrefix.f x y = some (hasPre x y) := by
  unfold strings_HasPrefix.f stringslite_HasPrefix.f hasPre
  by_cases h : y.size ≤ x.size
  · rw [if_pos (by omega), if_pos (by omega), if_pos (by omega)]
    simp [h]
  · rw [if_neg (by omega)]
    simp [h]
theorem preC (X : Cx) (m : Mem) (x y : ByteArray) : ∀ w, Cl X m w → Calls Tryd.prog 37 #[.string x, .string y] w fun e w' => e = .returned (.bool (hasPre x y)) ∧ Cl X m w' :=
  quietC fun w _ => (strings_HasPrefix.calls x y _ w (hasPre_f x y)).mono fun e w' ⟨he, hd⟩ => ⟨he, hd.below⟩

/-- strings.IndexByte of what stands between p and the limit. -/
def idxV (s : ByteArray) (lim : Nat) (c : Int) (p : Nat) : Int := if findB s lim c p = lim then -1 else (findB s lim c p : Int) - p
theorem indexByte_find (s : ByteArray) (lim : Nat) (hl : lim ≤ s.size) (c : Int) (h0 : 0 ≤ c) (h1 : c ≤ 255) (p : Nat) : p ≤ lim →
    Lib.indexByte ((s.data.toList.take lim).drop p) c.toNat.toUInt8 = idxV s lim c p := by
  unfold idxV
  fun_induction findB s lim c p with
  | case1 p hlt hc =>
    intro _
    have hp : p < s.data.toList.length := by rw [size_len]; omega
    rw [List.drop_eq_getElem_cons (by simp; rw [← size_len] at hl; simp at hl; omega), Lib.indexByte]
    have hb : (s.data.toList.take lim)[p]'(by simp; rw [← size_len] at hl; simp at hl; omega) = c.toNat.toUInt8 := by
      rw [List.getElem_take]
      rw [bt_list] at hc
      rw [Lib0.getD_in _ _ _ (by simpa using hp)] at hc
      simp only [Int.toNat_natCast] at hc
      rw [← hc]
      simp
    rw [if_pos (by rw [hb]; simp), if_neg (by omega)]
    omega
  | case2 p hlt hc ih =>
    intro _
    have hp : p < s.data.toList.length := by rw [size_len]; omega
    rw [List.drop_eq_getElem_cons (by simp; rw [← size_len] at hl; simp at hl; omega), Lib.indexByte]
    have hb : ¬ (s.data.toList.take lim)[p]'(by simp; rw [← size_len] at hl; simp at hl; omega) = c.toNat.toUInt8 := by
      rw [List.getElem_take]
      intro e
      apply hc
      rw [bt_list, Lib0.getD_in _ _ _ (by simpa using hp)]
      simp only [Int.toNat_natCast]
      rw [e]
      simp
      omega
    rw [if_neg (by simpa using hb), ih (by omega)]
    by_cases e : findB s lim c (p + 1) = lim
    · rw [if_pos e, if_pos e]; rfl
    · rw [if_neg e, if_neg e]
      have := findB_ge s lim c (p + 1) (by omega)
      rw [if_neg (by simp; omega)]
      omega
  | case3 p hlt =>
    intro hp
    obtain rfl : p = lim := by omega
    rw [if_pos rfl, List.drop_eq_nil_of_le (by simp; omega)]
    rfl
theorem idxC (X : Cx) (m : Mem) (s : ByteArray) (lim p : Nat) (c : Int) (h0 : 0 ≤ c) (h1 : c ≤ 255) (hp : p ≤ lim) (hl : lim ≤ s.size) : ∀ w, Cl X m w → Calls Tryd.prog 36 #[.string (s.extract p lim), .int .u8 c] w fun e w' => e = .returned (.int .i64 (idxV s lim c p)) ∧ Cl X m w' :=
  quietC fun w _ => (Tryd.strings_IndexByte (s.extract p lim) c w).mono fun e w' ⟨he, hd⟩ => ⟨by rw [he, data_ext, indexByte_find s lim hl c h0 h1 p hp], by rw [hd]; exact Below.refl _ _⟩

theorem pre_len {s : ByteArray} {a b : Nat} {y : ByteArray} (h : hasPre (s.extract a b) y = true) : y.size ≤ min b s.size - a := by
  unfold hasPre at h
  simp only [Bool.and_eq_true, decide_eq_true_eq] at h
  rw [ext_size] at h
  exact h.1

theorem pre3 {s : ByteArray} {a b : Nat} (h : hasPre (s.extract a b) ⟨#[33, 45, 45]⟩ = true) : a + 3 ≤ b := by
  have h1 := pre_len h
  have h2 : (⟨#[33, 45, 45]⟩ : ByteArray).size = 3 := rfl
  rw [h2] at h1
  omega

/-! ### skipPast -/
theorem ext_ext (s : ByteArray) (p lim q n : Nat) (h : p ≤ q) (hn : q + n ≤ lim) : ((s.extract p lim).extract (q - p) (q - p + n)).toList = (s.extract q (q + n)).toList := by
  rw [list_eq, list_eq, data_ext, data_ext, data_ext, List.take_drop, List.take_take, List.drop_drop]
  congr 1
  · omega
  · congr 1; omega
theorem zz_loop (s : ByteArray) (lim p : Nat) (sep : ByteArray) (hpl : p ≤ lim) (hl : lim ≤ s.size) (hs : s.size ≤ 140737488361232) (hx : sep.size ≤ 1000) (q : Nat) : p ≤ q → q ≤ lim + 1 → ∀ k, lim + 1 - q < k →
    hhtml_zzIndex.l0 k (s.extract p lim) sep ((q : Int) - p) = some (match subAt s lim sep q with | some r => (r : Int) - p | none => -1) := by
  fun_induction subAt s lim sep q with
  | case1 q h1 h2 =>
    intro hp hq k hk
    obtain ⟨k, rfl⟩ : ∃ j, k = j + 1 := ⟨k - 1, by omega⟩
    simp only [hhtml_zzIndex.l0]
    rw [wrap_id _ (by omega), ext_size, if_pos (by omega), if_pos (by omega), if_pos (by omega), if_pos]
    rw [show (((q : Int) - p).toNat) = q - p by omega, show (((q : Int) - p + sep.size).toNat) = q - p + sep.size by omega, ext_ext _ _ _ _ _ hp h1]
    exact h2
  | case2 q h1 h2 ih =>
    intro hp hq k hk
    obtain ⟨k, rfl⟩ : ∃ j, k = j + 1 := ⟨k - 1, by omega⟩
    simp only [hhtml_zzIndex.l0]
    rw [wrap_id _ (by omega), ext_size, if_pos (by omega), if_pos (by omega), if_pos (by omega), if_neg, wrap_id _ (by omega)]
    · have := ih (by omega) (by omega) k (by omega)
      rw [show (q : Int) - p + 1 = ((q + 1 : Nat) : Int) - p by omega]
      exact this
    · rw [show (((q : Int) - p).toNat) = q - p by omega, show (((q : Int) - p + sep.size).toNat) = q - p + sep.size by omega, ext_ext _ _ _ _ _ hp h1]
      exact h2
  | case3 q h1 =>
    intro hp hq k hk
    obtain ⟨k, rfl⟩ : ∃ j, k = j + 1 := ⟨k - 1, by omega⟩
    simp only [hhtml_zzIndex.l0]
    have hm : min lim s.size = lim := by omega
    rw [wrap_id _ (by omega), ext_size, hm, if_neg (by omega)]
theorem skip_f (s : ByteArray) (lim p : Nat) (sep : ByteArray) (hp : p ≤ lim) (hl : lim ≤ s.size) (hs : s.size ≤ 140737488361232) (hx : sep.size ≤ 1000) :
    hhtml_Scanner_skipPast.f (lim + 2) s p lim sep = some (s, ((skipE s lim sep p : Nat) : Int)) := by
  unfold hhtml_Scanner_skipPast.f hhtml_zzIndex.f skipE
  have h := zz_loop s lim p sep hp hl hs hx p (Nat.le_refl _) (by omega) (lim + 2) (by omega)
  rw [Int.sub_self] at h
  rw [if_pos (by omega), if_pos (by omega), if_pos (by omega)]
  simp only [Int.toNat_natCast]
  rw [h]
  simp only [Option.bind_some]
  cases hq : subAt s lim sep p with
  | none => rfl
  | some r =>
    have := subAt_ge hq
    simp only
    rw [if_neg (by omega), wrap_id (_ - _ + _) (by omega), wrap_id _ (by omega)]
    congr 2
    omega
theorem IsS_cl {X : Cx} {m : Mem} {w0 w : World} {i g : Nat} {s : ByteArray} {p : Int} (h : Cl X m w) (hm : m[i]? = some (g, [.string s, .int .i64 p], 49)) (hg : w0.heap.size ≤ g) : IsS49 w0 w g s p := ⟨h.1.at hm, hg⟩
/-- skipPast moves the scanner behind the first such text. -/
theorem skipC (X : Cx) (T g : Nat) (tk : List Value) (tt : TypeId) (s : ByteArray) (lim p : Nat) (sep : ByteArray) (hp : p ≤ lim) (hl : lim ≤ s.size) (hs : s.size ≤ 140737488361232) (hx : sep.size ≤ 1000) (hS : X.S g ∨ X.w0.heap.size ≤ g) :
    ∀ w, Cl X [(T, tk, tt), (g, [.string s, .int .i64 p], 49)] w → Calls Tryd.prog 38 #[.pointer (some ⟨g, 0, none⟩), .int .i64 lim, .string sep] w fun e w' => e = .returned (.tuple #[]) ∧ Cl X [(T, tk, tt), (g, [.string s, .int .i64 (skipE s lim sep p : Nat)], 49)] w' := by
  intro w hw
  have hgl : g < w.heap.size := hw.1.lt (x := (g, [.string s, .int .i64 p], 49)) (by simp)
  -- the world as it stands, but for this block
  have hb : w.heap[g]? = some (.cells #[.string s, .int .i64 p] 49 (0, 0)) := hw.1.at (i := 1) rfl
  let v : World := { w with heap := #[] }
  refine (hhtml_Scanner_skipPast.calls (lim + 2) g s p lim sep s ((skipE s lim sep p : Nat) : Int) v w ⟨hb, Nat.zero_le _⟩ ⟨rfl, rfl, rfl, Nat.zero_le _, fun k hk => absurd hk (by simp [v])⟩ (skip_f s lim p sep hp hl hs hx)).mono ?_
  rintro e w' ⟨rfl, hI, hB, hK⟩
  refine ⟨rfl, ?_⟩
  have he : Evo (fun k => k = g) w w' := ⟨hB.os, hB.tape, hB.output, hK.1, fun k hk hs => hK.2 k hk hs (by simp)⟩
  have hne := hw.1.ne
  simp only [List.map_cons, List.map_nil, List.nodup_cons, List.mem_cons, List.not_mem_nil, or_false] at hne
  refine ⟨⟨by simpa using hne.1, fun x hx => ?_⟩, ?_⟩
  · simp only [List.mem_cons, List.not_mem_nil, or_false] at hx
    rcases hx with rfl | rfl
    · have hT := hw.1.at (i := 0) (g := T) (c := tk) (t := tt) rfl
      have hTl := hw.1.lt (x := (T, tk, tt)) (by simp)
      exact (he.block T hTl hne.1).trans hT
    · exact hI.1
  · refine ⟨he.os.trans hw.2.os, he.tape.trans hw.2.tape, he.output.trans hw.2.output, Nat.le_trans hw.2.size he.size, fun k hk hs => ?_⟩
    have := hw.2.size
    rw [he.block k (by omega) (by rintro rfl; rcases hS with h | h; exact hs h; omega)]
    exact hw.2.block k hk hs
end Go.Proofs.YthjddnmfpdcjnaaDoor.TagC
