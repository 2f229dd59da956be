/- The specification's script of tags tells what the model's tells, where it is known. No walk. -/
import Derived.Test.YthjddnmfpdcjnaaDoorLawT0
import Derived.Test.YthjddnmfpdcjnaaDoorPSpx3
set_option linter.unusedVariables false
namespace Go.Proofs.YthjddnmfpdcjnaaDoor.SpecG
open Go.RowKit Go.Proofs.YthjddnmfpdcjnaaDoorW.PrintWords Go.Proofs.YthjddnmfpdcjnaaDoor.Lib0 Go.Proofs.YthjddnmfpdcjnaaDoor.Tag0 Go.Proofs.YthjddnmfpdcjnaaDoor.NextW Go.Proofs.YthjddnmfpdcjnaaDoor.Has0L6 Go.Proofs.YthjddnmfpdcjnaaDoor.TxtA Go.Proofs.YthjddnmfpdcjnaaDoor.LawC Go.Proofs.YthjddnmfpdcjnaaDoor.TagV Go.Proofs.YthjddnmfpdcjnaaDoor.PSp

/-! ### bytes -/
theorem blank_f (c : Int) : spec_tagBlank.f c = some (spc c) := by
  unfold spec_tagBlank.f spc
  repeat' split
  all_goals simp_all
theorem letter_f (c : Int) : spec_tagLetter.f c = some (ltr c) := by
  unfold spec_tagLetter.f ltr
  repeat' split
  all_goals (congr 1; simp_all <;> omega)
theorem ascii_mem {s : ByteArray} (h : Ascii s) (j : Nat) (hj : j < s.size) : 0 ≤ bt s (j : Nat) ∧ bt s (j : Nat) < 128 := by
  have hl : j < s.data.toList.length := by rw [size_len]; exact hj
  have := h j _ (List.getElem?_eq_getElem hl)
  rw [bt_list, Int.toNat_natCast, Lib0.getD_in _ _ _ hl]
  omega
theorem ascii_ext {s : ByteArray} (h : Ascii s) (a b : Nat) : Ascii (s.extract a b) := by
  intro j c hj
  rw [data_ext] at hj
  have : c ∈ s.data.toList := by
    have := List.mem_of_getElem? hj
    exact List.mem_of_mem_take (List.mem_of_mem_drop this)
  obtain ⟨i, hi⟩ := List.getElem?_of_mem this
  exact h i c hi
theorem low_byte2 : ∀ c : Fin 256, UInt8.ofNat (lowN (c.val : Int)).toNat = Lib.lowerB (UInt8.ofNat c.val) := by decide +kernel
theorem lowL_eq (s : ByteArray) : lowL s = ⟨(Lib.toLowerA s.data.toList).toArray⟩ := by
  refine bytes_ext ?_
  show _ = Lib.toLowerA s.data.toList
  unfold lowL
  rw [strOfNums_data]
  unfold Lib.toLowerA bytesOf
  rw [List.map_map, List.map_map]
  refine List.map_congr_left fun b _ => ?_
  simpa using low_byte2 ⟨b.toNat, b.toNat_lt⟩
theorem lower_f {s : ByteArray} (h : Ascii s) (hs : s.size ≤ 140737488355328) : strings_ToLower.f s = some (lowL s) := by
  unfold strings_ToLower.f
  rw [if_pos hs, if_pos ((asciiB_iff _).2 h), lowL_eq]
theorem tagLower_f {s : ByteArray} (hs : s.size ≤ 140737488355328) : spec_tagLower.f s = some (lowL s) := by
  unfold spec_tagLower.f; rw [if_pos hs]

/-! ### tagFind -/
theorem find_ev {s x : ByteArray} (hs : s.size ≤ 140737488355328) (hx : x.size ≤ 100) (p : Nat) : p ≤ s.size + 1 → Ev (fun k => spec_tagFind.l0 k s (p : Nat) x) ((skipE s s.size x p : Nat) : Int) := by
  unfold skipE
  fun_induction subAt s s.size x p with
  | case1 p h1 h2 =>
    intro hp
    refine Ev.step (f := fun _ => some ((p + x.size : Nat) : Int)) (fun k => ?_) (Ev.now _)
    simp only [spec_tagFind.l0]
    rw [wrap_id _ (by omega), if_pos (by omega), if_pos (by omega), if_pos (by omega), show ((p : Nat) : Int).toNat = p from rfl, show (((p : Nat) : Int) + (x.size : Int)).toNat = p + x.size by omega, if_pos h2]
    congr 1
  | case2 p h1 h2 ih =>
    intro hp
    refine Ev.step (fun k => ?_) (ih (by omega))
    simp only [spec_tagFind.l0]
    rw [wrap_id ((p : Int) + (x.size : Int)) (by omega), if_pos (by omega), if_pos (by omega), if_pos (by omega), show ((p : Nat) : Int).toNat = p from rfl, show (((p : Nat) : Int) + (x.size : Int)).toNat = p + x.size by omega, if_neg h2, wrap_id _ (by omega)]
    rfl
  | case3 p h1 =>
    intro hp
    refine Ev.step (f := fun _ => some ((s.size : Nat) : Int)) (fun k => ?_) (Ev.now _)
    simp only [spec_tagFind.l0]
    rw [wrap_id _ (by omega), if_neg (by omega)]

/-! ### tagName -/
theorem name_ev {s : ByteArray} (hs : s.size ≤ 140737488355328) (a p : Nat) : a ≤ p → p ≤ s.size → Ev (fun k => spec_tagName.l0 k s (a : Nat) (p : Nat)) (lowL (s.extract a (nameE s s.size p)), ((nameE s s.size p : Nat) : Int)) := by
  have hx : ∀ q : Nat, (s.extract a q).size ≤ 140737488355328 := fun q => by simp; omega
  fun_induction nameE s s.size p with
  | case1 p h1 h2 =>
    intro ha hp
    refine Ev.step (f := fun _ => some (lowL (s.extract a p), ((p : Nat) : Int))) (fun k => ?_) (Ev.now _)
    simp only [spec_tagName.l0]
    rw [if_pos (by omega), if_pos (by omega), blank_f, show ((a : Nat) : Int).toNat = a from rfl, show ((p : Nat) : Int).toNat = p from rfl, if_pos (by omega), if_pos (by omega), if_pos (by omega), tagLower_f (hx p)]
    simp only [Option.bind_some]
    unfold nend at h2
    simp only [Bool.or_eq_true, beq_iff_eq] at h2
    by_cases hb : spc (bt s (p : Nat)) = true
    · rw [if_pos hb]
    · rw [if_neg hb]
      rcases h2 with (h2 | h2) | h2
      · exact absurd h2 hb
      · rw [if_pos h2]
      · by_cases h3 : bt s (p : Nat) = 47
        · rw [if_pos h3]
        · rw [if_neg h3, if_pos h2]
  | case2 p h1 h2 ih =>
    intro ha hp
    refine Ev.step (fun k => ?_) (ih (by omega) (by omega))
    simp only [spec_tagName.l0]
    unfold nend at h2
    simp only [Bool.or_eq_true, beq_iff_eq, not_or] at h2
    rw [if_pos (by omega), if_pos (by omega), blank_f]
    simp only [Option.bind_some]
    rw [if_neg h2.1.1, if_neg h2.1.2, if_neg h2.2, wrap_id _ (by omega)]
    rfl
  | case3 p h1 =>
    intro ha hp
    refine Ev.step (f := fun _ => some (lowL (s.extract a p), ((p : Nat) : Int))) (fun k => ?_) (Ev.now _)
    simp only [spec_tagName.l0]
    rw [if_neg (by omega), show ((a : Nat) : Int).toNat = a from rfl, show ((p : Nat) : Int).toNat = p from rfl, if_pos (by omega), if_pos (by omega), if_pos (by omega), tagLower_f (hx p)]
    rfl

/-! ### tagClose -/
/-- Behind an opening quote. -/
theorem close_quote {s : ByteArray} (hs : s.size ≤ 140737488355328) (c : Int) (p : Nat) {v : Int} : p ≤ s.size → Ev (fun k => spec_tagClose.l0 k s ((if findB s s.size c p = s.size then s.size else findB s s.size c p + 1 : Nat) : Int) false) v → Ev (fun k => spec_tagClose.l1 k s (p : Nat) c) v := by
  fun_induction findB s s.size c p with
  | case1 p h1 h2 =>
    intro hp hv
    rw [if_neg (by omega)] at hv
    refine Ev.step (fun k => ?_) hv
    simp only [spec_tagClose.l1]
    rw [if_pos (by omega), if_pos (by omega), if_pos h2, wrap_id _ (by omega)]
    rfl
  | case2 p h1 h2 ih =>
    intro hp hv
    refine Ev.step (fun k => ?_) (ih (by omega) hv)
    simp only [spec_tagClose.l1]
    rw [if_pos (by omega), if_pos (by omega), if_neg h2, wrap_id _ (by omega)]
    rfl
  | case3 p h1 =>
    intro hp hv
    rw [if_pos rfl] at hv
    have hend : ∀ q : Nat, s.size ≤ q → q ≤ 140737488355330 → Ev (fun k => spec_tagClose.l0 k s (q : Nat) false) ((s.size : Nat) : Int) := fun q h1 h2 =>
      Ev.step (f := fun _ => some ((s.size : Nat) : Int)) (fun k => by simp only [spec_tagClose.l0]; rw [if_neg (by omega)]) (Ev.now _)
    have hev : v = ((s.size : Nat) : Int) := by
      obtain ⟨K1, e1⟩ := hv
      obtain ⟨K2, e2⟩ := hend s.size (Nat.le_refl _) (by omega)
      have a1 := e1 (max K1 K2) (Nat.le_max_left _ _)
      have a2 := e2 (max K1 K2) (Nat.le_max_right _ _)
      rw [a2] at a1
      exact (Option.some.inj a1).symm
    subst hev
    refine Ev.step (fun k => ?_) (hend (p + 1) (by omega) (by omega))
    simp only [spec_tagClose.l1]
    rw [if_neg (by omega), wrap_id _ (by omega)]
    rfl
theorem close_plain {s : ByteArray} (hs : s.size ≤ 140737488355328) (p : Nat) (h : p < s.size) (eq : Bool) (h1 : bt s (p : Nat) ≠ 62) (h2 : eq = true → bt s (p : Nat) ≠ 34 ∧ bt s (p : Nat) ≠ 39) {v : Int}
    (hv : Ev (fun k => spec_tagClose.l0 k s ((p + 1 : Nat) : Int) (if bt s (p : Nat) = 61 then true else if spc (bt s (p : Nat)) = true then eq else false)) v) : Ev (fun k => spec_tagClose.l0 k s (p : Nat) eq) v := by
  have hj : Ev (fun k => spec_tagClose.j1 k s (p : Nat) eq (bt s (p : Nat)) false) v := by
    refine Ev.step (fun k => ?_) hv
    simp only [spec_tagClose.j1]
    rw [if_neg (by simp), wrap_id _ (by omega), blank_f]
    simp only [Option.bind_some]
    by_cases h61 : bt s (p : Nat) = 61
    · rw [if_pos h61, if_pos h61]; rfl
    · rw [if_neg h61, if_neg h61]
      by_cases hb : spc (bt s (p : Nat)) = true
      · rw [if_pos hb, if_pos hb]; rfl
      · rw [if_neg hb, if_neg hb]; rfl
  refine Ev.step (fun k => ?_) hj
  simp only [spec_tagClose.l0]
  rw [if_pos (by omega), if_pos (by omega), if_neg h1]
  cases eq with
  | false => rw [if_neg (by simp)]
  | true =>
    obtain ⟨a, b⟩ := h2 rfl
    rw [if_pos rfl, if_neg a, show (bt s (p : Nat) == 39) = false by simpa using b]
theorem close_open {s : ByteArray} (hs : s.size ≤ 140737488355328) (p : Nat) (h : p < s.size) (hq : bt s (p : Nat) = 34 ∨ bt s (p : Nat) = 39) {v : Int}
    (hv : Ev (fun k => spec_tagClose.l1 k s ((p + 1 : Nat) : Int) (bt s (p : Nat))) v) : Ev (fun k => spec_tagClose.l0 k s (p : Nat) true) v := by
  have hj : Ev (fun k => spec_tagClose.j1 k s (p : Nat) true (bt s (p : Nat)) true) v := by
    refine Ev.step (fun k => ?_) hv
    simp only [spec_tagClose.j1]
    rw [if_pos trivial, wrap_id _ (by omega)]
    rfl
  refine Ev.step (fun k => ?_) hj
  simp only [spec_tagClose.l0]
  rw [if_pos (by omega), if_pos (by omega), if_neg (by omega), if_pos trivial]
  rcases hq with hq | hq
  · rw [if_pos hq]
  · rw [if_neg (by omega)]; simp [hq]
theorem close_blanks {s : ByteArray} (hs : s.size ≤ 140737488355328) (p : Nat) {v : Int} : p ≤ s.size → Ev (fun k => spec_tagClose.l0 k s ((blanksE s s.size p : Nat) : Int) true) v → Ev (fun k => spec_tagClose.l0 k s (p : Nat) true) v := by
  fun_induction blanksE s s.size p with
  | case1 p h1 h2 ih =>
    intro hp hv
    have hb : bt s (p : Nat) = 32 ∨ bt s (p : Nat) = 9 ∨ bt s (p : Nat) = 10 ∨ bt s (p : Nat) = 13 ∨ bt s (p : Nat) = 12 := by
      unfold spc at h2; simp only [Bool.or_eq_true, beq_iff_eq] at h2; omega
    refine close_plain hs p h1 true (by omega) (fun _ => by omega) ?_
    rw [if_neg (by omega), if_pos h2]
    exact ih (by omega) hv
  | case2 p h1 h2 => intro hp hv; exact hv
  | case3 p h1 => intro hp hv; exact hv
theorem blanks_stop {s : ByteArray} {lim p : Nat} (h : blanksE s lim p < lim) : spc (bt s ((blanksE s lim p : Nat) : Int)) = false := by
  fun_induction blanksE s lim p with
  | case1 p h1 h2 ih => exact ih h
  | case2 p h1 h2 => simpa using h2
  | case3 p h1 => omega
theorem blanks_prev {s : ByteArray} {lim p : Nat} (hp : 0 < p) (h0 : bt s ((p - 1 : Nat) : Int) ≠ 47) : bt s ((blanksE s lim p - 1 : Nat) : Int) ≠ 47 := by
  fun_induction blanksE s lim p with
  | case1 p h1 h2 ih =>
    refine ih (by omega) ?_
    rw [Nat.add_sub_cancel]
    unfold spc at h2; simp only [Bool.or_eq_true, beq_iff_eq] at h2; omega
  | case2 p h1 h2 => exact h0
  | case3 p h1 => exact h0
theorem value_prev {s : ByteArray} {lim p : Nat} (hp : 0 < p) (h0 : bt s ((p - 1 : Nat) : Int) ≠ 47) (hl : valueE s lim p < lim) : bt s ((valueE s lim p - 1 : Nat) : Int) ≠ 47 := by
  unfold valueE at hl ⊢
  split at hl
  · rename_i h1
    rw [if_pos h1]
    split at hl
    · rename_i h2
      rw [if_pos h2]
      split at hl
      · omega
      · rename_i h3
        rw [if_neg h3, Nat.add_sub_cancel]
        have := findB_ge s lim (bt s (p : Nat)) (p + 1) (by omega)
        rw [findB_at (by omega)]
        omega
    · rename_i h2
      rw [if_neg h2]; exact h0
  · omega
/-- What the close of a tag is, beside the model's way through its attributes. -/
theorem close_attrs {s : ByteArray} (hs : s.size ≤ 140737488355328) (st : Bool) (p : Nat) (self : Bool) : p ≤ s.size → 0 < p → (p < s.size → bt s (p : Nat) = 62 → self = (st && (bt s ((p - 1 : Nat) : Int) == 47))) → (¬ (p < s.size ∧ bt s (p : Nat) = 62) → self = false) →
    ∃ c : Nat, Ev (fun k => spec_tagClose.l0 k s (p : Nat) false) ((c : Nat) : Int) ∧ p ≤ c ∧ c ≤ s.size ∧ (attrs s s.size st p self).1 = min (c + 1) s.size ∧ (attrs s s.size st p self).2 = (decide (c < s.size) && (st && (bt s ((c - 1 : Nat) : Int) == 47))) := by
  fun_induction attrs s s.size st p self with
  | case1 p self h1 h2 =>
    intro hp h0 hA hB
    refine ⟨p, Ev.step (f := fun _ => some ((p : Nat) : Int)) (fun k => ?_) (Ev.now _), Nat.le_refl _, hp, by simp; omega, ?_⟩
    · simp only [spec_tagClose.l0]; rw [if_pos (by omega), if_pos (by omega), if_pos h2]
    · simp only [h1, decide_true, Bool.true_and]; exact hA h1 h2
  | case2 p self h1 h2 h3 ih =>
    intro hp h0 hA hB
    obtain ⟨c, e, f1, f2, f3, f4⟩ := ih (by omega) (by omega) (fun a b => by rw [Nat.add_sub_cancel, h3, b]; simp [a]) (fun hn => by
      by_cases hl : p + 1 < s.size
      · have : ¬ bt s ((p + 1 : Nat) : Int) = 62 := fun b => hn ⟨hl, b⟩
        have hb : (bt s ((p + 1 : Nat) : Int) == 62) = false := by simpa using this
        rw [hb]; simp
      · simp [hl])
    refine ⟨c, close_plain hs p h1 false h2 (fun h => by cases h) ?_, by omega, f2, f3, f4⟩
    rw [if_neg (by omega)]
    simpa using e
  | case3 p self h1 h2 h3 h4 ih =>
    intro hp h0 hA hB
    have hself : self = false := hB (fun h => h2 h.2)
    have g1 := blanksE_ge s s.size (p + 1) (by omega)
    have g2 := valueE_ge s s.size (blanksE s s.size (p + 1)) (by omega)
    have pv := blanks_prev (s := s) (lim := s.size) (p := p + 1) (by omega) (by rw [Nat.add_sub_cancel, h4]; decide)
    obtain ⟨c, e, f1, f2, f3, f4⟩ := ih g2.2 (by omega) (fun a b => by
      have := value_prev (s := s) (lim := s.size) (p := blanksE s s.size (p + 1)) (by omega) pv a
      rw [hself]
      have hb : (bt s ((valueE s s.size (blanksE s s.size (p + 1)) - 1 : Nat) : Int) == 47) = false := by simpa using this
      rw [hb]; simp) (fun _ => hself)
    refine ⟨c, close_plain hs p h1 false h2 (fun h => by cases h) ?_, by omega, f2, f3, f4⟩
    rw [if_pos h4]
    refine close_blanks hs (p + 1) (by omega) ?_
    generalize hq : blanksE s s.size (p + 1) = q at *
    by_cases hl : q < s.size
    · have hns : spc (bt s (q : Nat)) = false := by rw [← hq]; exact blanks_stop (by rw [hq]; exact hl)
      by_cases hqq : bt s (q : Nat) = 34 ∨ bt s (q : Nat) = 39
      · refine close_open hs q hl hqq (close_quote hs _ (q + 1) (by omega) ?_)
        have : valueE s s.size q = if findB s s.size (bt s (q : Nat)) (q + 1) = s.size then s.size else findB s s.size (bt s (q : Nat)) (q + 1) + 1 := by
          unfold valueE; rw [if_pos hl, if_pos hqq]
        rw [← this]; exact e
      · have : valueE s s.size q = q := by unfold valueE; rw [if_pos hl, if_neg hqq]
        rw [this] at e
        by_cases h62 : bt s (q : Nat) = 62
        · have e1 : Ev (fun k => spec_tagClose.l0 k s (q : Nat) true) ((q : Nat) : Int) := Ev.step (f := fun _ => some ((q : Nat) : Int)) (fun k => by simp only [spec_tagClose.l0]; rw [if_pos (by omega), if_pos (by omega), if_pos h62]) (Ev.now _)
          have e2 : Ev (fun k => spec_tagClose.l0 k s (q : Nat) false) ((q : Nat) : Int) := Ev.step (f := fun _ => some ((q : Nat) : Int)) (fun k => by simp only [spec_tagClose.l0]; rw [if_pos (by omega), if_pos (by omega), if_pos h62]) (Ev.now _)
          obtain ⟨K1, a1⟩ := e
          obtain ⟨K2, a2⟩ := e2
          have b1 := a1 (max K1 K2) (Nat.le_max_left _ _)
          have b2 := a2 (max K1 K2) (Nat.le_max_right _ _)
          rw [b2] at b1
          rw [← Option.some.inj b1]; exact e1
        · refine close_plain hs q hl true h62 (fun _ => ⟨fun h => hqq (.inl h), fun h => hqq (.inr h)⟩) ?_
          rw [hns, if_neg (show ¬ (false = true) by simp)]
          -- what the other state does at q
          obtain ⟨K1, a1⟩ := e
          refine ⟨K1 + 2, fun k hk => ?_⟩
          have a2 := a1 (k + 2) (by omega)
          simp only [spec_tagClose.l0] at a2
          rw [if_pos (by omega), if_pos (by omega), if_neg h62, if_neg (by simp)] at a2
          simp only [spec_tagClose.j1] at a2
          rw [if_neg (by simp), wrap_id _ (by omega), blank_f, hns] at a2
          simp only [Option.bind_some] at a2
          rw [if_neg (show ¬ (false = true) by simp)] at a2
          by_cases h61 : bt s (q : Nat) = 61
          · rw [if_pos h61] at a2 ⊢; exact a2
          · rw [if_neg h61] at a2 ⊢; exact a2
    · have hq2 : q = s.size := by omega
      have : valueE s s.size q = q := by unfold valueE; rw [if_neg (by omega)]
      rw [this] at e
      obtain ⟨K1, a1⟩ := e
      have a2 := a1 (K1 + 1) (by omega)
      simp only [spec_tagClose.l0] at a2
      rw [if_neg (by omega)] at a2
      rw [← Option.some.inj a2]
      exact Ev.step (f := fun _ => some ((s.size : Nat) : Int)) (fun k => by simp only [spec_tagClose.l0]; rw [if_neg (by omega)]) (Ev.now _)
  | case4 p self h1 h2 h3 h4 ih =>
    intro hp h0 hA hB
    have hself : self = false := hB (fun h => h2 h.2)
    obtain ⟨c, e, f1, f2, f3, f4⟩ := ih (by omega) (by omega) (fun a b => by
      have hb : (bt s ((p + 1 - 1 : Nat) : Int) == 47) = false := by rw [Nat.add_sub_cancel]; simpa using h3
      rw [hself, hb]; simp) (fun _ => hself)
    refine ⟨c, close_plain hs p h1 false h2 (fun h => by cases h) ?_, by omega, f2, f3, f4⟩
    rw [if_neg h4]
    simpa using e
  | case5 p self h1 =>
    intro hp h0 hA hB
    obtain rfl : p = s.size := by omega
    refine ⟨s.size, Ev.step (f := fun _ => some ((s.size : Nat) : Int)) (fun k => ?_) (Ev.now _), Nat.le_refl _, hp, by simp, ?_⟩
    · simp only [spec_tagClose.l0]; rw [if_neg (by omega)]
    · simp only [Nat.lt_irrefl, decide_false, Bool.false_and]; exact hB (fun h => absurd h.1 (Nat.lt_irrefl _))
end Go.Proofs.YthjddnmfpdcjnaaDoor.SpecG
namespace Go.Proofs.YthjddnmfpdcjnaaDoor.SpecH
open Go.RowKit Go.Proofs.YthjddnmfpdcjnaaDoorW.PrintWords Go.Proofs.YthjddnmfpdcjnaaDoor.Lib0 Go.Proofs.YthjddnmfpdcjnaaDoor.Tag0 Go.Proofs.YthjddnmfpdcjnaaDoor.NextW Go.Proofs.YthjddnmfpdcjnaaDoor.Has0L6 Go.Proofs.YthjddnmfpdcjnaaDoor.TxtA Go.Proofs.YthjddnmfpdcjnaaDoor.LawC Go.Proofs.YthjddnmfpdcjnaaDoor.TagV Go.Proofs.YthjddnmfpdcjnaaDoor.PSp Go.Proofs.YthjddnmfpdcjnaaDoor.SpecG

theorem at_cons {s y z : ByteArray} {c : UInt8} {p : Nat} (hz : z = ⟨#[c]⟩ ++ y) : At s z p ↔ (bt s (p : Nat) = (c.toNat : Int) ∧ At s y (p + 1)) := by
  subst hz
  have z1 : (⟨#[c]⟩ : ByteArray).size = 1 := rfl
  constructor
  · intro h
    have h1 := h.right
    rw [z1] at h1
    have h0 := h.left.eq 0 (by rw [z1]; omega)
    rw [Nat.add_zero] at h0
    exact ⟨h0, h1⟩
  · rintro ⟨h0, h1⟩
    have := h1.le
    refine ⟨by rw [ByteArray.size_append, z1]; omega, fun j hj => ?_⟩
    rw [ByteArray.size_append, z1] at hj
    cases j with
    | zero => rw [Nat.add_zero, h0, bt_app_left _ _ _ (by omega) (by rw [z1]; omega)]; rfl
    | succ j =>
      have := h1.eq j (by omega)
      rw [show p + (j + 1) = p + 1 + j by omega, this, bt_app_right _ _ _ (by rw [z1]; omega), z1]
      congr 1; omega
theorem pre_iff {s y : ByteArray} {p : Nat} (hp : p ≤ s.size) : hasPre (s.extract p s.size) y = true ↔ At s y p := by
  constructor
  · intro h
    unfold hasPre at h
    simp only [Bool.and_eq_true, decide_eq_true_eq, beq_iff_eq] at h
    obtain ⟨h1, h2⟩ := h
    have hz : (s.extract p s.size).size = s.size - p := by simp
    refine At.of_ext (by omega) ?_
    rw [← h2]
    congr 1
    refine ext_bt (by simp; omega) fun j hj => ?_
    have hj2 : j < y.size := by simp at hj; omega
    rw [bt_extract _ _ _ _ (by omega) (by omega) (by omega), bt_extract _ _ _ _ (by omega) (by omega) (by omega), bt_extract _ _ _ _ (by omega) (by omega) (by omega)]
    congr 1; omega
  · intro h; exact pre_at h h.le (Nat.le_refl _)
theorem tagAt_f {s x : ByteArray} (hs : s.size ≤ 140737488355328) (hx : x.size ≤ 100) (p : Nat) (hp : p ≤ s.size) : ∃ b, spec_tagAt.f s (p : Nat) x = some b ∧ (b = true ↔ At s x p) := by
  unfold spec_tagAt.f
  rw [wrap_id _ (by omega), if_pos (by omega)]
  by_cases h : p + x.size ≤ s.size
  · rw [if_pos (by omega), if_pos (by omega), if_pos (by omega), show ((p : Nat) : Int).toNat = p from rfl, show (((p : Nat) : Int) + (x.size : Int)).toNat = p + x.size by omega]
    refine ⟨_, rfl, ?_⟩
    rw [beq_iff_eq]
    exact ⟨fun e => At.of_ext h e, fun e => by rw [e.ext rfl]⟩
  · rw [if_neg (by omega)]
    exact ⟨false, rfl, ⟨fun e => (by cases e), fun e => absurd e.le h⟩⟩
theorem sub_from {s x : ByteArray} {a b : Nat} (hab : a ≤ b) (hn : ∀ j, a ≤ j → j < b → ¬ At s x j) : subAt s s.size x a = subAt s s.size x b := by
  obtain ⟨d, rfl⟩ : ∃ d, b = a + d := ⟨b - a, by omega⟩
  clear hab
  induction d generalizing a with
  | zero => rfl
  | succ d ih =>
    have h1 := ih (a := a + 1) (fun j h1 h2 => hn j (by omega) (by omega))
    rw [show a + (d + 1) = a + 1 + d by omega, ← h1]
    rw [subAt]
    by_cases h : a + x.size ≤ s.size
    · rw [if_pos h, if_neg (fun e => hn a (Nat.le_refl _) (by omega) (At.of_ext h e))]
    · rw [if_neg h, subAt, if_neg (by omega)]
theorem skip_from {s x : ByteArray} {a b : Nat} (hab : a ≤ b) (hn : ∀ j, a ≤ j → j < b → ¬ At s x j) : skipE s s.size x a = skipE s s.size x b := by
  unfold skipE; rw [sub_from hab hn]
theorem name_before {s : ByteArray} {lim p : Nat} : ∀ j, p ≤ j → j < nameE s lim p → nend (bt s (j : Nat)) = false := by
  fun_induction nameE s lim p with
  | case1 p h1 h2 => intro j h3 h4; omega
  | case2 p h1 h2 ih =>
    intro j h3 h4
    rcases Nat.eq_or_lt_of_le h3 with h | h
    · subst h; simpa using h2
    · exact ih j h h4
  | case3 p h1 => intro j h3 h4; omega
def tokV (t : Tok) : Int × ByteArray × Bool × Int × Int × Bool := (t.ty, t.name, t.self, t.start, ((t.pos : Nat) : Int), t.ok)
theorem next_at' {lower : ByteArray → Option ByteArray} {s : ByteArray} {p : Nat} {o : Option Tok} (h60 : bt s (p : Nat) = 60) (h1 : p + 1 < s.size) (ha : afterLt lower s s.size p = some o) : next lower s s.size p = o.elim (next lower s s.size (p + 1)) some := by
  have hf : findB s s.size 60 p = p := findB_eq (Nat.le_refl _) (by omega) (fun j a b => by omega) (fun _ => h60)
  rw [next, hf, dif_pos ⟨h1, Nat.le_refl _⟩, ha]
  cases o <;> rfl
theorem next_skip {lower : ByteArray → Option ByteArray} {s : ByteArray} {p : Nat} (h60 : bt s (p : Nat) ≠ 60) (h1 : p < s.size) : next lower s s.size p = next lower s s.size (p + 1) := by
  have hf : findB s s.size 60 p = findB s s.size 60 (p + 1) := by rw [findB, if_pos h1, if_neg h60]
  have hg := findB_ge s s.size 60 (p + 1) (by omega)
  rw [next]
  conv => rhs; rw [next]
  rw [hf]
  by_cases hc : findB s s.size 60 (p + 1) + 1 < s.size
  · rw [dif_pos ⟨hc, by omega⟩, dif_pos ⟨hc, by omega⟩]
  · rw [dif_neg (fun h => hc h.1), dif_neg (fun h => hc h.1)]
theorem ev_det {α : Type} {f : Nat → Option α} {a b : α} (h : Ev f a) (k : Ev f b) : a = b := by
  obtain ⟨K1, e1⟩ := h
  obtain ⟨K2, e2⟩ := k
  have a1 := e1 (max K1 K2) (Nat.le_max_left _ _)
  rw [e2 (max K1 K2) (Nat.le_max_right _ _)] at a1
  exact (Option.some.inj a1).symm
theorem mn_eq (c n : Nat) (h : c ≤ n) : mn ((c : Int) + 1) (n : Int) = ((min (c + 1) n : Nat) : Int) := by unfold mn; split <;> omega
/-- A tag's name and its end. -/
theorem body_ev {s : ByteArray} (hA : Ascii s) (hs : s.size ≤ 140737488355328) (st : Bool) (i p : Nat) (hp : p ≤ s.size) (h0 : 0 < p) (hst : st = true → p < s.size ∧ ltr (bt s (p : Nat)) = true) : ∃ c : Nat, c ≤ s.size ∧ Ev (fun k => spec_tagName.f k s (p : Nat)) (lowL (s.extract p (nameE s s.size p)), ((nameE s s.size p : Nat) : Int)) ∧ Ev (fun k => spec_tagClose.f k s ((nameE s s.size p : Nat) : Int)) ((c : Nat) : Int) ∧
    body strings_ToLower.f s s.size st i p = some ⟨if st then 1 else 2, lowL (s.extract p (nameE s s.size p)), decide (c < s.size) && (st && (bt s ((c - 1 : Nat) : Int) == 47)), i, true, min (c + 1) s.size⟩ ∧ 0 < c := by
  have hn := nameE_ge s s.size p hp
  obtain ⟨c, e, f1, f2, f3, f4⟩ := close_attrs hs st (nameE s s.size p) false hn.2 (by omega) (fun a b => by
    cases st with
    | false => rfl
    | true =>
      obtain ⟨g1, g2⟩ := hst rfl
      have hlt : p < nameE s s.size p := by
        rw [nameE, if_pos g1, ltr_nend g2, if_neg (by simp)]
        have := nameE_ge s s.size (p + 1) (by omega)
        omega
      have := name_before (s := s) (lim := s.size) (p := p) (nameE s s.size p - 1) (by omega) (by omega)
      unfold nend at this
      simp only [Bool.or_eq_false_iff] at this
      rw [this.1.2]; rfl) (fun _ => rfl)
  refine ⟨c, f2, name_ev hs p p (Nat.le_refl _) hp, e, ?_, by omega⟩
  unfold body
  rw [lower_f (ascii_ext hA _ _) (by simp; omega)]
  simp only [Option.bind_some, f3, f4]
theorem lit_in {s x : ByteArray} {c : UInt8} {p : Nat} (h : ¬ bt s (p : Nat) = (c.toNat : Int)) (hx : ∃ y, x = ⟨#[c]⟩ ++ y) : ¬ At s x p := by
  obtain ⟨y, hy⟩ := hx
  exact fun ha => h ((at_cons hy).1 ha).1
/-- What the specification does behind a <. -/
def behind (s : ByteArray) (p : Nat) (k : Nat) : Option (Int × ByteArray × Bool × Int × Int × Bool) := (spec_tagLetter.f (bt s ((p + 1 : Nat) : Int))).bind fun t108 => (if t108 = true then ((spec_tagName.f k s ((p + 1 : Nat) : Int)).bind fun bt109 => ((spec_tagClose.f k s bt109.2).bind fun t111 => (if t111 = (s.size : Int) then (some (1, bt109.1, false, ((p : Nat) : Int), t111, true)) else (if 0 ≤ (wrap64 (t111 - 1)) then (if (wrap64 (t111 - 1)) < (s.size : Int) then (some (1, bt109.1, ((bt s (wrap64 (t111 - 1))) == 47), ((p : Nat) : Int), wrap64 (t111 + 1), true)) else (none)) else (none))))) else (if (bt s ((p + 1 : Nat) : Int)) = 47 then (if ((p + 2 : Nat) : Int) = (s.size : Int) then (spec_tagNext.j1 k s (p : Nat) (bt s ((p + 1 : Nat) : Int)) true) else ((spec_tagLetter.f (bt s ((p + 2 : Nat) : Int))).bind fun t112 => (spec_tagNext.j1 k s (p : Nat) (bt s ((p + 1 : Nat) : Int)) t112))) else (spec_tagNext.j1 k s (p : Nat) (bt s ((p + 1 : Nat) : Int)) false)))
theorem g1 {s : ByteArray} {p : Nat} (hs : s.size ≤ 140737488355328) (h1 : p + 1 < s.size) (h60 : bt s (p : Nat) = 60) : ∀ v, Ev (behind s p) v → Ev (fun k => spec_tagNext.l0 k s (p : Nat)) v := by
  intro v hv
  refine Ev.step (fun k => ?_) hv
  unfold behind
  simp only [spec_tagNext.l0]
  rw [wrap_id (((p : Nat) : Int) + 1) (by omega), wrap_id (((p : Nat) : Int) + 2) (by omega), if_pos (by omega), if_pos (by omega), if_pos (by omega), if_pos h60, if_pos (by omega)]
  by_cases hc : ((p + 2 : Nat) : Int) = (s.size : Int)
  · have hc' : ((p : Nat) : Int) + 2 = (s.size : Int) := by omega
    rw [if_pos hc', if_pos hc]
    rfl
  · have hc' : ¬ ((p : Nat) : Int) + 2 = (s.size : Int) := by omega
    rw [if_neg hc', if_neg hc, if_pos (show (0 : Int) ≤ ((p : Nat) : Int) + 2 by omega), if_pos (show ((p : Nat) : Int) + 2 < (s.size : Int) by omega)]
    rfl
/-! what j1 does, case by case -/
section
variable (k : Nat) (s : ByteArray) (p x8 : Int) {ba bb : Bool} (ea : spec_tagAt.f s p ⟨#[60, 33, 45, 45]⟩ = some ba) (eb : spec_tagAt.f s p ⟨#[60, 33, 91, 67, 68, 65, 84, 65, 91]⟩ = some bb)
include ea
theorem j1_comment (fa : ba = true) : spec_tagNext.j1 (k + 1) s p x8 false = (spec_tagFind.f k s (wrap64 (p + 4)) ⟨#[45, 45, 62]⟩).bind fun t122 => (some (3, (⟨#[]⟩ : ByteArray), false, p, t122, true)) := by
  subst fa
  simp only [spec_tagNext.j1, ea, Option.bind_some, Bool.false_eq_true, if_false, if_true]
include eb
theorem j1_data (fa : ba = false) (fb : bb = true) : spec_tagNext.j1 (k + 1) s p x8 false = (spec_tagFind.f k s (wrap64 (p + 9)) ⟨#[93, 93, 62]⟩).bind fun t122 => (some (3, (⟨#[]⟩ : ByteArray), false, p, t122, true)) := by
  subst fa fb
  simp only [spec_tagNext.j1, ea, eb, Option.bind_some, Bool.false_eq_true, if_false, if_true]
theorem j1_other (fa : ba = false) (fb : bb = false) (h : x8 = 33 ∨ x8 = 63 ∨ x8 = 47) : spec_tagNext.j1 (k + 1) s p x8 false = (spec_tagFind.f k s (wrap64 (p + 2)) ⟨#[62]⟩).bind fun t122 => (some (3, (⟨#[]⟩ : ByteArray), false, p, t122, true)) := by
  subst fa fb
  simp only [spec_tagNext.j1, ea, eb, Option.bind_some, Bool.false_eq_true, if_false]
  by_cases h1 : x8 = 33
  · rw [if_pos h1]
  · rw [if_neg h1]
    by_cases h2 : x8 = 63
    · rw [if_pos h2]
    · rw [if_neg h2, if_pos (by omega)]
theorem j1_text (fa : ba = false) (fb : bb = false) (h : ¬ x8 = 33 ∧ ¬ x8 = 63 ∧ ¬ x8 = 47) : spec_tagNext.j1 (k + 1) s p x8 false = spec_tagNext.l0 k s (wrap64 (p + 1)) := by
  subst fa fb
  simp only [spec_tagNext.j1, ea, eb, Option.bind_some, Bool.false_eq_true, if_false]
  rw [if_neg h.1, if_neg h.2.1, if_neg h.2.2]
end
theorem caseA {s : ByteArray} {p : Nat} (hA : Ascii s) (hs : s.size ≤ 140737488355328) (hp : p ≤ s.size) (h1 : p + 1 < s.size) (h60 : bt s (p : Nat) = 60) (hl : ltr (bt s ((p + 1 : Nat) : Int)) = true) : ∃ t, next strings_ToLower.f s s.size p = some t ∧ Ev (fun k => spec_tagNext.l0 k s (p : Nat)) (tokV t) := by
  obtain ⟨k1, k2⟩ := lt33 hl
  obtain ⟨c, b1, b2, b3, b4, b5⟩ := body_ev hA hs true p (p + 1) (by omega) (by omega) (fun _ => ⟨h1, hl⟩)
  refine ⟨_, next_at' h60 h1 (o := some _) (by unfold afterLt; rw [if_neg k1, if_neg k2, if_pos hl, b4]; rfl), g1 hs h1 h60 _ ?_⟩
  refine Ev.congr (f := fun k => (spec_tagName.f k s ((p + 1 : Nat) : Int)).bind fun bt109 => ((spec_tagClose.f k s bt109.2).bind fun t111 => (if t111 = (s.size : Int) then (some (1, bt109.1, false, ((p : Nat) : Int), t111, true)) else (if 0 ≤ (wrap64 (t111 - 1)) then (if (wrap64 (t111 - 1)) < (s.size : Int) then (some (1, bt109.1, ((bt s (wrap64 (t111 - 1))) == 47), ((p : Nat) : Int), wrap64 (t111 + 1), true)) else (none)) else (none))))) (fun k => by unfold behind; rw [letter_f, hl]; rfl) ?_
  refine Ev.bind b2 (Ev.bind b3 ?_)
  refine Ev.congr (f := fun _ => some _) (fun k => ?_) (Ev.now _)
  by_cases hcs : c = s.size
  · subst hcs
    rw [if_pos rfl]
    simp [tokV]
  · rw [if_neg (by omega), wrap_id (((c : Nat) : Int) - 1) (by omega), if_pos (by omega), if_pos (by omega), wrap_id _ (by omega), show ((c : Nat) : Int) - 1 = ((c - 1 : Nat) : Int) by omega]
    have : c < s.size := by omega
    simp [tokV, this]
    omega
theorem caseB1 {s : ByteArray} {p : Nat} (hA : Ascii s) (hs : s.size ≤ 140737488355328) (hp : p ≤ s.size) (h1 : p + 1 < s.size) (h60 : bt s (p : Nat) = 60) (hlf : ltr (bt s ((p + 1 : Nat) : Int)) = false) (h47 : bt s ((p + 1 : Nat) : Int) = 47) (h2 : p + 2 < s.size ∧ ltr (bt s ((p + 2 : Nat) : Int)) = false) : ∃ t, next strings_ToLower.f s s.size p = some t ∧ Ev (fun k => spec_tagNext.l0 k s (p : Nat)) (tokV t) := by
  have c3a : (⟨#[60, 33, 45, 45]⟩ : ByteArray) = ⟨#[60]⟩ ++ ⟨#[33, 45, 45]⟩ := by decide +kernel
  have c3b : (⟨#[60, 33, 91, 67, 68, 65, 84, 65, 91]⟩ : ByteArray) = ⟨#[60]⟩ ++ ⟨#[33, 91, 67, 68, 65, 84, 65, 91]⟩ := by decide +kernel
  obtain ⟨ba, ea, ia⟩ := tagAt_f (x := ⟨#[60, 33, 45, 45]⟩) hs (by decide) p hp
  obtain ⟨bb, eb, ib⟩ := tagAt_f (x := ⟨#[60, 33, 91, 67, 68, 65, 84, 65, 91]⟩) hs (by decide) p hp
  have ia' : ba = true ↔ hasPre (s.extract (p + 1) s.size) ⟨#[33, 45, 45]⟩ = true := by
    rw [ia, pre_iff (by omega), at_cons c3a]; exact ⟨fun h => h.2, fun h => ⟨h60, h⟩⟩
  have ib' : bb = true ↔ hasPre (s.extract (p + 1) s.size) ⟨#[33, 91, 67, 68, 65, 84, 65, 91]⟩ = true := by
    rw [ib, pre_iff (by omega), at_cons c3b]; exact ⟨fun h => h.2, fun h => ⟨h60, h⟩⟩
  have no33 : bt s ((p + 1 : Nat) : Int) ≠ 33 → ba = false ∧ bb = false := fun h => by
    have e1 : (⟨#[33, 45, 45]⟩ : ByteArray) = ⟨#[33]⟩ ++ ⟨#[45, 45]⟩ := by decide +kernel
    have e2 : (⟨#[33, 91, 67, 68, 65, 84, 65, 91]⟩ : ByteArray) = ⟨#[33]⟩ ++ ⟨#[91, 67, 68, 65, 84, 65, 91]⟩ := by decide +kernel
    constructor
    · cases hb : ba with
      | false => rfl
      | true => exact absurd ((at_cons c3a).1 (ia.1 hb)).2 (lit_in (c := 33) h ⟨_, e1⟩)
    · cases hb : bb with
      | false => rfl
      | true => exact absurd ((at_cons c3b).1 (ib.1 hb)).2 (lit_in (c := 33) h ⟨_, e2⟩)
  have n33 : ¬ (bt s ((p + 1 : Nat) : Int) = 33 ∨ bt s ((p + 1 : Nat) : Int) = 63) := by omega
  obtain ⟨fa, fb⟩ := no33 (by omega)
  have fe := find_ev (s := s) (x := ⟨#[62]⟩) hs (by decide) (p + 2) (by omega)
  refine ⟨_, next_at' h60 h1 (o := some _) (by unfold afterLt; rw [if_neg n33, if_pos h47, if_pos h2]; rfl), g1 hs h1 h60 _ ?_⟩
  refine Ev.congr (f := fun k => spec_tagNext.j1 k s (p : Nat) (bt s ((p + 1 : Nat) : Int)) false) (fun k => ?_) ?_
  · unfold behind; rw [letter_f, hlf]
    simp only [Option.bind_some]
    rw [if_neg (by simp), if_pos h47, if_neg (by omega), letter_f, h2.2]
    rfl
  · have hj : Ev (fun k => (spec_tagFind.f k s ((p + 2 : Nat) : Int) ⟨#[62]⟩).bind fun t => some ((3 : Int), (⟨#[]⟩ : ByteArray), false, ((p : Nat) : Int), t, true)) (tokV ⟨3, ⟨#[]⟩, false, (p : Nat), true, skipE s s.size ⟨#[62]⟩ (p + 2)⟩) := Ev.bind fe (Ev.now _)
    refine Ev.step (fun k => ?_) hj
    rw [j1_other k s _ _ ea eb fa fb (.inr (.inr h47)), wrap_id _ (by omega)]
    rfl
theorem caseB2 {s : ByteArray} {p : Nat} (hA : Ascii s) (hs : s.size ≤ 140737488355328) (hp : p ≤ s.size) (h1 : p + 1 < s.size) (h60 : bt s (p : Nat) = 60) (hlf : ltr (bt s ((p + 1 : Nat) : Int)) = false) (h47 : bt s ((p + 1 : Nat) : Int) = 47) (h2 : ¬ (p + 2 < s.size ∧ ltr (bt s ((p + 2 : Nat) : Int)) = false)) : ∃ t, next strings_ToLower.f s s.size p = some t ∧ Ev (fun k => spec_tagNext.l0 k s (p : Nat)) (tokV t) := by
  have n33 : ¬ (bt s ((p + 1 : Nat) : Int) = 33 ∨ bt s ((p + 1 : Nat) : Int) = 63) := by omega
  obtain ⟨c, b1, b2, b3, b4, b5⟩ := body_ev hA hs false p (p + 2) (by omega) (by omega) (fun h => by cases h)
  refine ⟨_, next_at' h60 h1 (o := some _) (by unfold afterLt; rw [if_neg n33, if_pos h47, if_neg h2, b4]; rfl), g1 hs h1 h60 _ ?_⟩
  refine Ev.congr (f := fun k => spec_tagNext.j1 k s (p : Nat) (bt s ((p + 1 : Nat) : Int)) true) (fun k => ?_) ?_
  · unfold behind; rw [letter_f, hlf]
    simp only [Option.bind_some]
    rw [if_neg (by simp), if_pos h47]
    by_cases hc : ((p + 2 : Nat) : Int) = (s.size : Int)
    · rw [if_pos hc]
    · rw [if_neg hc, letter_f]
      have : ltr (bt s ((p + 2 : Nat) : Int)) = true := by
        cases hx : ltr (bt s ((p + 2 : Nat) : Int)) with
        | true => rfl
        | false => exact absurd ⟨by omega, hx⟩ h2
      rw [this]; rfl
  · have hj : Ev (fun k => (spec_tagName.f k s ((p + 2 : Nat) : Int)).bind fun bt113 => ((spec_tagClose.f k s bt113.2).bind fun t115 => (some ((2 : Int), bt113.1, false, ((p : Nat) : Int), mn (wrap64 (t115 + 1)) (s.size : Int), true)))) (tokV ⟨2, lowL (s.extract (p + 2) (nameE s s.size (p + 2))), decide (c < s.size) && (false && (bt s ((c - 1 : Nat) : Int) == 47)), (p : Nat), true, min (c + 1) s.size⟩) := by
      refine Ev.bind b2 (Ev.bind b3 ?_)
      refine Ev.congr (f := fun _ => some _) (fun k => ?_) (Ev.now _)
      rw [wrap_id _ (by omega), mn_eq c s.size b1]
      simp [tokV]
    refine Ev.step (fun k => ?_) hj
    simp only [spec_tagNext.j1]
    rw [if_pos trivial, wrap_id (((p : Nat) : Int) + 2) (by omega)]
    rfl
theorem caseC {s : ByteArray} {p : Nat} (hA : Ascii s) (hs : s.size ≤ 140737488355328) (hp : p ≤ s.size) (h1 : p + 1 < s.size) (h60 : bt s (p : Nat) = 60) (hlf : ltr (bt s ((p + 1 : Nat) : Int)) = false) (h47 : ¬ bt s ((p + 1 : Nat) : Int) = 47) (h33 : bt s ((p + 1 : Nat) : Int) = 33 ∨ bt s ((p + 1 : Nat) : Int) = 63) : ∃ t, next strings_ToLower.f s s.size p = some t ∧ Ev (fun k => spec_tagNext.l0 k s (p : Nat)) (tokV t) := by
  have c3a : (⟨#[60, 33, 45, 45]⟩ : ByteArray) = ⟨#[60]⟩ ++ ⟨#[33, 45, 45]⟩ := by decide +kernel
  have c3b : (⟨#[60, 33, 91, 67, 68, 65, 84, 65, 91]⟩ : ByteArray) = ⟨#[60]⟩ ++ ⟨#[33, 91, 67, 68, 65, 84, 65, 91]⟩ := by decide +kernel
  obtain ⟨ba, ea, ia⟩ := tagAt_f (x := ⟨#[60, 33, 45, 45]⟩) hs (by decide) p hp
  obtain ⟨bb, eb, ib⟩ := tagAt_f (x := ⟨#[60, 33, 91, 67, 68, 65, 84, 65, 91]⟩) hs (by decide) p hp
  have ia' : ba = true ↔ hasPre (s.extract (p + 1) s.size) ⟨#[33, 45, 45]⟩ = true := by
    rw [ia, pre_iff (by omega), at_cons c3a]; exact ⟨fun h => h.2, fun h => ⟨h60, h⟩⟩
  have ib' : bb = true ↔ hasPre (s.extract (p + 1) s.size) ⟨#[33, 91, 67, 68, 65, 84, 65, 91]⟩ = true := by
    rw [ib, pre_iff (by omega), at_cons c3b]; exact ⟨fun h => h.2, fun h => ⟨h60, h⟩⟩
  have no33 : bt s ((p + 1 : Nat) : Int) ≠ 33 → ba = false ∧ bb = false := fun h => by
    have e1 : (⟨#[33, 45, 45]⟩ : ByteArray) = ⟨#[33]⟩ ++ ⟨#[45, 45]⟩ := by decide +kernel
    have e2 : (⟨#[33, 91, 67, 68, 65, 84, 65, 91]⟩ : ByteArray) = ⟨#[33]⟩ ++ ⟨#[91, 67, 68, 65, 84, 65, 91]⟩ := by decide +kernel
    constructor
    · cases hb : ba with
      | false => rfl
      | true => exact absurd ((at_cons c3a).1 (ia.1 hb)).2 (lit_in (c := 33) h ⟨_, e1⟩)
    · cases hb : bb with
      | false => rfl
      | true => exact absurd ((at_cons c3b).1 (ib.1 hb)).2 (lit_in (c := 33) h ⟨_, e2⟩)
  have key : ∀ (q : Nat), (if hasPre (s.extract (p + 1) s.size) ⟨#[33, 45, 45]⟩ = true then skipE s s.size ⟨#[45, 45, 62]⟩ (p + 4) else if hasPre (s.extract (p + 1) s.size) ⟨#[33, 91, 67, 68, 65, 84, 65, 91]⟩ = true then skipE s s.size ⟨#[93, 93, 62]⟩ (p + 1) else skipE s s.size ⟨#[62]⟩ (p + 1)) = q →
      afterLt strings_ToLower.f s s.size p = some (some ⟨3, ⟨#[]⟩, false, (p : Nat), true, q⟩) := by
    intro q hq
    unfold afterLt
    rw [if_pos h33]
    by_cases q1 : hasPre (s.extract (p + 1) s.size) ⟨#[33, 45, 45]⟩ = true
    · rw [if_pos q1] at hq ⊢; subst hq; rfl
    · rw [if_neg q1] at hq ⊢
      by_cases q2 : hasPre (s.extract (p + 1) s.size) ⟨#[33, 91, 67, 68, 65, 84, 65, 91]⟩ = true
      · rw [if_pos q2] at hq ⊢; subst hq; rfl
      · rw [if_neg q2] at hq ⊢; subst hq; rfl
  refine ⟨_, next_at' h60 h1 (key _ rfl), g1 hs h1 h60 _ ?_⟩
  refine Ev.congr (f := fun k => spec_tagNext.j1 k s (p : Nat) (bt s ((p + 1 : Nat) : Int)) false) (fun k => ?_) ?_
  · unfold behind; rw [letter_f, hlf]
    simp only [Option.bind_some]
    rw [if_neg (by simp), if_neg h47]
  by_cases q1 : ba = true
  · rw [if_pos (ia'.1 q1)]
    have hle := (ia.1 q1).le
    have fe := find_ev (s := s) (x := ⟨#[45, 45, 62]⟩) hs (by decide) (p + 4) (by have z : (⟨#[60, 33, 45, 45]⟩ : ByteArray).size = 4 := rfl; omega)
    have hj : Ev (fun k => (spec_tagFind.f k s ((p + 4 : Nat) : Int) ⟨#[45, 45, 62]⟩).bind fun t => some ((3 : Int), (⟨#[]⟩ : ByteArray), false, ((p : Nat) : Int), t, true)) (tokV ⟨3, ⟨#[]⟩, false, (p : Nat), true, skipE s s.size ⟨#[45, 45, 62]⟩ (p + 4)⟩) := Ev.bind fe (Ev.now _)
    refine Ev.step (fun k => ?_) hj
    rw [j1_comment k s _ _ ea q1, wrap_id _ (by omega)]
    rfl
  · have q1' : ba = false := by simpa using q1
    rw [if_neg (fun h => q1 (ia'.2 h))]
    by_cases q2 : bb = true
    · rw [if_pos (ib'.1 q2)]
      have hat := ib.1 q2
      have hle := hat.le
      have z : (⟨#[60, 33, 91, 67, 68, 65, 84, 65, 91]⟩ : ByteArray).size = 9 := rfl
      have fe := find_ev (s := s) (x := ⟨#[93, 93, 62]⟩) hs (by decide) (p + 9) (by omega)
      have hsk : skipE s s.size ⟨#[93, 93, 62]⟩ (p + 1) = skipE s s.size ⟨#[93, 93, 62]⟩ (p + 9) := skip_from (by omega) (fun j j1 j2 hj => by
        have c0 := at_byte hj 0 (by decide) (c := 93) rfl
        rw [Nat.add_zero, hat.get j (by omega) (by omega)] at c0
        have hq : j - p < 9 := by omega
        have hq2 : 1 ≤ j - p := by omega
        generalize j - p = q at c0 hq hq2
        match q, hq, hq2 with
        | 1, _, _ => exact absurd c0 (by decide)
        | 2, _, _ => exact absurd c0 (by decide)
        | 3, _, _ => exact absurd c0 (by decide)
        | 4, _, _ => exact absurd c0 (by decide)
        | 5, _, _ => exact absurd c0 (by decide)
        | 6, _, _ => exact absurd c0 (by decide)
        | 7, _, _ => exact absurd c0 (by decide)
        | 8, _, _ => exact absurd c0 (by decide))
      rw [hsk]
      have hj : Ev (fun k => (spec_tagFind.f k s ((p + 9 : Nat) : Int) ⟨#[93, 93, 62]⟩).bind fun t => some ((3 : Int), (⟨#[]⟩ : ByteArray), false, ((p : Nat) : Int), t, true)) (tokV ⟨3, ⟨#[]⟩, false, (p : Nat), true, skipE s s.size ⟨#[93, 93, 62]⟩ (p + 9)⟩) := Ev.bind fe (Ev.now _)
      refine Ev.step (fun k => ?_) hj
      rw [j1_data k s _ _ ea eb q1' q2, wrap_id _ (by omega)]
      rfl
    · have q2' : bb = false := by simpa using q2
      rw [if_neg (fun h => q2 (ib'.2 h))]
      have fe := find_ev (s := s) (x := ⟨#[62]⟩) hs (by decide) (p + 2) (by omega)
      have hsk : skipE s s.size ⟨#[62]⟩ (p + 1) = skipE s s.size ⟨#[62]⟩ (p + 2) := skip_from (by omega) (fun j j1 j2 hj => by
        obtain rfl : j = p + 1 := by omega
        have c0 := at_byte hj 0 (by decide) (c := 62) rfl
        rw [Nat.add_zero] at c0
        omega)
      rw [hsk]
      have hj : Ev (fun k => (spec_tagFind.f k s ((p + 2 : Nat) : Int) ⟨#[62]⟩).bind fun t => some ((3 : Int), (⟨#[]⟩ : ByteArray), false, ((p : Nat) : Int), t, true)) (tokV ⟨3, ⟨#[]⟩, false, (p : Nat), true, skipE s s.size ⟨#[62]⟩ (p + 2)⟩) := Ev.bind fe (Ev.now _)
      refine Ev.step (fun k => ?_) hj
      rw [j1_other k s _ _ ea eb q1' q2' (by omega), wrap_id _ (by omega)]
      rfl
theorem caseD {s : ByteArray} {p : Nat} (hA : Ascii s) (hs : s.size ≤ 140737488355328) (hp : p ≤ s.size) (h1 : p + 1 < s.size) (h60 : bt s (p : Nat) = 60) (hlf : ltr (bt s ((p + 1 : Nat) : Int)) = false) (h47 : ¬ bt s ((p + 1 : Nat) : Int) = 47) (h33 : ¬ (bt s ((p + 1 : Nat) : Int) = 33 ∨ bt s ((p + 1 : Nat) : Int) = 63)) {t' : Tok} (ht' : next strings_ToLower.f s s.size (p + 1) = some t') (ev' : Ev (fun k => spec_tagNext.l0 k s ((p + 1 : Nat) : Int)) (tokV t')) : ∃ t, next strings_ToLower.f s s.size p = some t ∧ Ev (fun k => spec_tagNext.l0 k s (p : Nat)) (tokV t) := by
  have c3a : (⟨#[60, 33, 45, 45]⟩ : ByteArray) = ⟨#[60]⟩ ++ ⟨#[33, 45, 45]⟩ := by decide +kernel
  have c3b : (⟨#[60, 33, 91, 67, 68, 65, 84, 65, 91]⟩ : ByteArray) = ⟨#[60]⟩ ++ ⟨#[33, 91, 67, 68, 65, 84, 65, 91]⟩ := by decide +kernel
  obtain ⟨ba, ea, ia⟩ := tagAt_f (x := ⟨#[60, 33, 45, 45]⟩) hs (by decide) p hp
  obtain ⟨bb, eb, ib⟩ := tagAt_f (x := ⟨#[60, 33, 91, 67, 68, 65, 84, 65, 91]⟩) hs (by decide) p hp
  have ia' : ba = true ↔ hasPre (s.extract (p + 1) s.size) ⟨#[33, 45, 45]⟩ = true := by
    rw [ia, pre_iff (by omega), at_cons c3a]; exact ⟨fun h => h.2, fun h => ⟨h60, h⟩⟩
  have ib' : bb = true ↔ hasPre (s.extract (p + 1) s.size) ⟨#[33, 91, 67, 68, 65, 84, 65, 91]⟩ = true := by
    rw [ib, pre_iff (by omega), at_cons c3b]; exact ⟨fun h => h.2, fun h => ⟨h60, h⟩⟩
  have no33 : bt s ((p + 1 : Nat) : Int) ≠ 33 → ba = false ∧ bb = false := fun h => by
    have e1 : (⟨#[33, 45, 45]⟩ : ByteArray) = ⟨#[33]⟩ ++ ⟨#[45, 45]⟩ := by decide +kernel
    have e2 : (⟨#[33, 91, 67, 68, 65, 84, 65, 91]⟩ : ByteArray) = ⟨#[33]⟩ ++ ⟨#[91, 67, 68, 65, 84, 65, 91]⟩ := by decide +kernel
    constructor
    · cases hb : ba with
      | false => rfl
      | true => exact absurd ((at_cons c3a).1 (ia.1 hb)).2 (lit_in (c := 33) h ⟨_, e1⟩)
    · cases hb : bb with
      | false => rfl
      | true => exact absurd ((at_cons c3b).1 (ib.1 hb)).2 (lit_in (c := 33) h ⟨_, e2⟩)
  obtain ⟨fa, fb⟩ := no33 (by omega)
  refine ⟨t', (next_at' h60 h1 (o := none) (by unfold afterLt; rw [if_neg h33, if_neg h47, hlf, if_neg (by simp)])).trans ht', g1 hs h1 h60 _ ?_⟩
  refine Ev.congr (f := fun k => spec_tagNext.j1 k s (p : Nat) (bt s ((p + 1 : Nat) : Int)) false) (fun k => ?_) ?_
  · unfold behind; rw [letter_f, hlf]
    simp only [Option.bind_some]
    rw [if_neg (by simp), if_neg h47]
  · refine Ev.step (fun k => ?_) ev'
    rw [j1_text k s _ _ ea eb fa fb ⟨fun h => h33 (.inl h), fun h => h33 (.inr h), h47⟩, wrap_id _ (by omega)]
    rfl
theorem next_ev {s : ByteArray} (hA : Ascii s) (hs : s.size ≤ 140737488355328) : ∀ d p, s.size - p = d → p ≤ s.size → ∃ t, next strings_ToLower.f s s.size p = some t ∧ Ev (fun k => spec_tagNext.l0 k s (p : Nat)) (tokV t) := by
  intro d
  induction d with
  | zero =>
    intro p hd hp
    refine ⟨⟨0, ⟨#[]⟩, false, 0, false, s.size⟩, ?_, Ev.step (f := fun _ => some (tokV ⟨0, ⟨#[]⟩, false, 0, false, s.size⟩)) (fun k => ?_) (Ev.now _)⟩
    · have := findB_ge s s.size 60 p hp
      rw [next, dif_neg (by omega)]
    · simp only [spec_tagNext.l0]
      rw [wrap_id _ (by omega), if_neg (by omega)]; rfl
  | succ d ih =>
    intro p hd hp
    by_cases h1 : p + 1 < s.size
    · obtain ⟨t', ht', ev'⟩ := ih (p + 1) (by omega) (by omega)
      by_cases h60 : bt s (p : Nat) = 60
      · by_cases hl : ltr (bt s ((p + 1 : Nat) : Int)) = true
        · exact caseA hA hs hp h1 h60 hl
        · have hlf : ltr (bt s ((p + 1 : Nat) : Int)) = false := by simpa using hl
          by_cases h47 : bt s ((p + 1 : Nat) : Int) = 47
          · by_cases h2 : p + 2 < s.size ∧ ltr (bt s ((p + 2 : Nat) : Int)) = false
            · exact caseB1 hA hs hp h1 h60 hlf h47 h2
            · exact caseB2 hA hs hp h1 h60 hlf h47 h2
          · by_cases h33 : bt s ((p + 1 : Nat) : Int) = 33 ∨ bt s ((p + 1 : Nat) : Int) = 63
            · exact caseC hA hs hp h1 h60 hlf h47 h33
            · exact caseD hA hs hp h1 h60 hlf h47 h33 ht' ev'
      · refine ⟨t', by rw [next_skip h60 (by omega)]; exact ht', Ev.step (fun k => ?_) ev'⟩
        simp only [spec_tagNext.l0]
        rw [wrap_id (((p : Nat) : Int) + 1) (by omega), if_pos (by omega), if_pos (by omega), if_pos (by omega), if_neg h60]
        rfl
    · refine ⟨⟨0, ⟨#[]⟩, false, 0, false, s.size⟩, ?_, Ev.step (f := fun _ => some (tokV ⟨0, ⟨#[]⟩, false, 0, false, s.size⟩)) (fun k => ?_) (Ev.now _)⟩
      · have := findB_ge s s.size 60 p hp
        rw [next, dif_neg (by omega)]
      · simp only [spec_tagNext.l0]
        rw [wrap_id _ (by omega), if_neg (by omega)]; rfl
end Go.Proofs.YthjddnmfpdcjnaaDoor.SpecH
namespace Go.Proofs.YthjddnmfpdcjnaaDoor.SpecI
open Go.RowKit Go.Proofs.YthjddnmfpdcjnaaDoorW.PrintWords Go.Proofs.YthjddnmfpdcjnaaDoor.Lib0 Go.Proofs.YthjddnmfpdcjnaaDoor.Tag0 Go.Proofs.YthjddnmfpdcjnaaDoor.NextW Go.Proofs.YthjddnmfpdcjnaaDoor.Has0L6 Go.Proofs.YthjddnmfpdcjnaaDoor.TxtA Go.Proofs.YthjddnmfpdcjnaaDoor.LawC Go.Proofs.YthjddnmfpdcjnaaDoor.TagV Go.Proofs.YthjddnmfpdcjnaaDoor.PSp Go.Proofs.YthjddnmfpdcjnaaDoor.SpecG Go.Proofs.YthjddnmfpdcjnaaDoor.SpecH

/-! ### raw text skipped -/
theorem fold_byte : ∀ x y : Fin 128, Lib.foldEq (UInt8.ofNat x.val) (UInt8.ofNat y.val) = decide (Lib.lowerB (UInt8.ofNat x.val) = Lib.lowerB (UInt8.ofNat y.val)) := by decide +kernel
theorem fold_map : ∀ (a b : List UInt8), (∀ c ∈ a, c.toNat < 128) → (∀ c ∈ b, c.toNat < 128) → Lib.equalFold a b = decide (a.map Lib.lowerB = b.map Lib.lowerB) := by
  intro a
  induction a with
  | nil => intro b _ _; cases b <;> simp [Lib.equalFold]
  | cons x a ih =>
    intro b ha hb
    cases b with
    | nil => simp [Lib.equalFold]
    | cons y b =>
      have h1 := fold_byte ⟨x.toNat, ha x List.mem_cons_self⟩ ⟨y.toNat, hb y List.mem_cons_self⟩
      simp only [UInt8.ofNat_toNat] at h1
      rw [Lib.equalFold, h1, ih b (fun c hc => ha c (List.mem_cons_of_mem _ hc)) (fun c hc => hb c (List.mem_cons_of_mem _ hc))]
      simp [Bool.decide_and]
theorem lowL_inj (a b : ByteArray) : lowL a = lowL b ↔ a.data.toList.map Lib.lowerB = b.data.toList.map Lib.lowerB := by
  rw [lowL_eq, lowL_eq]
  constructor
  · intro h
    have h1 : (Lib.toLowerA a.data.toList).toArray = (Lib.toLowerA b.data.toList).toArray := by injection h
    exact congrArg Array.toList h1
  · intro h
    have : Lib.toLowerA a.data.toList = Lib.toLowerA b.data.toList := h
    rw [this]
theorem ascii_list {s : ByteArray} (h : Ascii s) : ∀ c ∈ s.data.toList, c.toNat < 128 := fun c hc => by
  obtain ⟨i, hi⟩ := List.getElem?_of_mem hc
  exact h i c hi
theorem fold_f {x nm : ByteArray} (hx : Ascii x) (hn : Ascii nm) (hz : x.size < 4294967281) : strings_EqualFold.f x nm = some (decide (lowL x = lowL nm)) := by
  unfold strings_EqualFold.f
  rw [if_pos hz, if_pos ((asciiB_iff _).2 hx), if_pos ((asciiB_iff _).2 hn), fold_map _ _ (ascii_list hx) (ascii_list hn)]
  congr 1
  exact decide_eq_decide.2 (lowL_inj x nm).symm
theorem skipS_past {s nm : ByteArray} {a b : Nat} (hab : a ≤ b) (hn : ∀ j, a ≤ j → j < b → ¬ (bt s (j : Nat) = 60 ∧ bt s ((j + 1 : Nat) : Int) = 47)) : skipS s nm a = skipS s nm b := by
  obtain ⟨d, rfl⟩ : ∃ d, b = a + d := ⟨b - a, by omega⟩
  clear hab
  induction d generalizing a with
  | zero => rfl
  | succ d ih =>
    have h1 := ih (a := a + 1) (fun j h1 h2 => hn j (by omega) (by omega))
    rw [show a + (d + 1) = a + 1 + d by omega, ← h1]
    by_cases h : a + 2 + nm.size < s.size
    · exact skipS_no h (fun hc => hn a (Nat.le_refl _) (by omega) ⟨hc.1, hc.2.1⟩)
    · rw [skipS_end h, skipS_end (by omega)]
theorem at_lt {s : ByteArray} {j : Nat} : At s ⟨#[60, 47]⟩ j ↔ (j + 2 ≤ s.size ∧ bt s (j : Nat) = 60 ∧ bt s ((j + 1 : Nat) : Int) = 47) := by
  constructor
  · intro h
    have h0 := at_byte h 0 (by decide) (c := 60) rfl
    rw [Nat.add_zero] at h0
    exact ⟨h.le, h0, at_byte h 1 (by decide) rfl⟩
  · rintro ⟨h1, h2, h3⟩
    refine ⟨h1, fun q hq => ?_⟩
    have hq : q < 2 := hq
    match q, hq with
    | 0, _ => exact h2
    | 1, _ => exact h3
theorem subAt_before {s sep : ByteArray} {p q : Nat} (h : subAt s s.size sep p = some q) : ∀ j, p ≤ j → j < q → ¬ At s sep j := by
  fun_induction subAt s s.size sep p with
  | case1 p h1 h2 => obtain rfl := Option.some.inj h; intro j h3 h4; omega
  | case2 p h1 h2 ih =>
    intro j h3 h4 ha
    rcases Nat.eq_or_lt_of_le h3 with e | e
    · subst e; exact h2 (by rw [ha.ext rfl])
    · exact ih h j e h4 ha
  | case3 p h1 => cases h
theorem subAt_none' {s sep : ByteArray} {p : Nat} (h : subAt s s.size sep p = none) : ∀ j, p ≤ j → ¬ At s sep j := by
  fun_induction subAt s s.size sep p with
  | case1 p h1 h2 => cases h
  | case2 p h1 h2 ih =>
    intro j h3 ha
    rcases Nat.eq_or_lt_of_le h3 with e | e
    · subst e; exact h2 (by rw [ha.ext rfl])
    · exact ih h j e ha
  | case3 p h1 => intro j h3 ha; have := ha.le; omega
theorem bt_out {s : ByteArray} {j : Nat} (h : s.size ≤ j) : bt s (j : Nat) = 0 := by
  rw [bt_list, Int.toNat_natCast, Lib0.getD_out _ _ _ (by rw [size_len]; exact h)]; rfl
theorem skip_eq {s nm : ByteArray} (hA : Ascii s) (hN : Ascii nm) (hs : s.size ≤ 4294967280) : ∀ d p, s.size - p = d → p ≤ s.size → skipRaw strings_EqualFold.f s s.size nm p = some (skipS s nm p) := by
  intro d
  induction d using Nat.strongRecOn with
  | _ d ih =>
    intro p hd hp
    have z2 : (⟨#[60, 47]⟩ : ByteArray).size = 2 := rfl
    rw [skipRaw]
    unfold skipE
    cases hq : subAt s s.size ⟨#[60, 47]⟩ p with
    | none =>
      have hno := subAt_none' hq
      simp only [Nat.lt_irrefl, dite_false]
      rw [skipS_past (b := s.size) hp (fun j h1 h2 h3 => hno j h1 (at_lt.2 ⟨by
        rcases Nat.lt_or_ge (j + 1) s.size with h | h
        · omega
        · have := bt_out (s := s) (j := j + 1) h; omega, h3.1, h3.2⟩)), skipS_end (by omega)]
    | some a =>
      obtain ⟨h1, h2, h3⟩ := subAt_ge hq
      have hbef := subAt_before hq
      have hat : At s ⟨#[60, 47]⟩ a := At.of_ext h2 h3
      obtain ⟨_, b0, b1⟩ := at_lt.1 hat
      have hpa : skipS s nm p = skipS s nm a := skipS_past h1 (fun j g1 g2 g3 => hbef j g1 g2 (at_lt.2 ⟨by omega, g3.1, g3.2⟩))
      have hnext : skipS s nm (a + 1) = skipS s nm (a + 2) := skipS_past (by omega) (fun j g1 g2 g3 => by
        obtain rfl : j = a + 1 := by omega
        omega)
      simp only [z2] at h2 ⊢
      by_cases hl : a + 2 < s.size
      · rw [dif_pos hl]
        have hrec := ih (s.size - (a + 2)) (by omega) (a + 2) rfl (by omega)
        have hz : (s.extract (a + 2) s.size).size = s.size - (a + 2) := by simp
        by_cases hn : a + 2 + nm.size < s.size
        · rw [if_pos (by omega)]
          have hx : (s.extract (a + 2) s.size).extract 0 nm.size = s.extract (a + 2) (a + 2 + nm.size) := by
            refine ext_bt (by simp; omega) fun j hj => ?_
            have hj2 : j < nm.size := by simp at hj; omega
            rw [bt_extract _ _ _ _ (by omega) (by omega) (by omega), bt_extract _ _ _ _ (by omega) (by omega) (by omega), bt_extract _ _ _ _ (by omega) (by omega) (by omega)]
            congr 1; omega
          have hb : bt (s.extract (a + 2) s.size) (nm.size : Nat) = bt s ((a + 2 + nm.size : Nat) : Int) := by
            rw [bt_extract _ _ _ _ (by omega) (by omega) (by omega)]
            congr 1
          rw [hx, fold_f (ascii_ext hA _ _) hN (by simp; omega), hb, hpa]
          by_cases hc : skipC s nm a
          · rw [skipS_yes hn hc]
            simp only [hc.2.2.1, decide_true, hc.2.2.2, if_true]
            congr 1
          · rw [skipS_no hn hc, hnext]
            by_cases hlo : lowL (s.extract (a + 2) (a + 2 + nm.size)) = lowL nm
            · have hne : ¬ nend (bt s ((a + 2 + nm.size : Nat) : Int)) = true := fun h => hc ⟨b0, b1, hlo, h⟩
              simp only [hlo, decide_true, hne, if_false]
              exact hrec
            · simp only [hlo, decide_false]
              exact hrec
        · rw [if_neg (by omega), hpa, skipS_end hn, hrec, skipS_end (by omega)]
      · rw [dif_neg hl, hpa, skipS_end (by omega)]
        congr 1; omega

/-! ### one step -/
def conv (t : NextW.Told) : S32 := ⟨⟨t.ty, t.name, t.self, t.start⟩, t.ok, ((t.pos : Nat) : Int)⟩
def stepOf (x : S27) : Step := ⟨x.f0, x.f1, x.f2⟩
/-- A step of which it is said what it tells, at a place. -/
def Good (s : ByteArray) (p : Nat) (x : S27) : Prop := (x.f0 = 0 ∨ x.f0 = 1) ∧ (p : Int) ≤ x.f1 ∧ x.f1 ≤ (s.size : Int) ∧ (x.f0 = 1 → Ascii x.f2 ∧ x.f2.size ≤ 2147483647)
theorem vw_self {s : ByteArray} {lim : Nat} (h : lim ≤ s.size) : Vw (s.extract 0 lim) s lim 0 := by
  have hz : (s.extract 0 lim).size = lim := by simp; omega
  refine ⟨by omega, by omega, fun j hj => ?_⟩
  rw [bt_extract _ _ _ _ (by omega) (by omega) (by omega), Nat.add_zero]
  congr 1; omega
theorem mvT0 (o : Option Tok) : o.map (mvT 0) = o := by
  cases o with
  | none => rfl
  | some t => obtain ⟨a, b, c, d, e, f⟩ := t; cases e <;> simp [mvT]
theorem skipRaw_vw {s s' : ByteArray} {lim : Nat} (h : Vw s s' lim 0) (fold : ByteArray → ByteArray → Option Bool) (nm : ByteArray) (p : Nat) : skipRaw fold s' lim nm p = skipRaw fold s lim nm p := by
  have hk : ∀ p, skipE s' lim ⟨#[60, 47]⟩ p = skipE s lim ⟨#[60, 47]⟩ p := fun p => by have := h.skip ⟨#[60, 47]⟩ p; simpa using this
  have hx : ∀ p, s'.extract p lim = s.extract p lim := fun p => by have := h.ext p lim (Nat.le_refl _); simpa using this
  fun_induction skipRaw fold s lim nm p with
  | case1 p h1 h2 h3 => rw [skipRaw, dif_pos (by rw [hk]; exact h1), hk, hx, if_pos h2, h3]
  | case2 p h1 h2 h3 h4 => rw [skipRaw, dif_pos (by rw [hk]; exact h1), hk, hx, if_pos h2, h3]; simp [h4]
  | case3 p h1 h2 h3 h4 ih => rw [skipRaw, dif_pos (by rw [hk]; exact h1), hk, hx, if_pos h2, h3]; simp only [h4]; exact ih
  | case4 p h1 h2 h3 ih => rw [skipRaw, dif_pos (by rw [hk]; exact h1), hk, hx, if_pos h2, h3]; exact ih
  | case5 p h1 h2 ih => rw [skipRaw, dif_pos (by rw [hk]; exact h1), hk, hx, if_neg h2]; exact ih
  | case6 p h1 => rw [skipRaw, dif_neg (by rw [hk]; exact h1), hk]
theorem skipS_le {s nm : ByteArray} (p : Nat) (h : p ≤ s.size) : p ≤ skipS s nm p ∧ skipS s nm p ≤ s.size := by
  fun_induction skipS s nm p with
  | case1 p h1 h2 => omega
  | case2 p h1 h2 ih => have := ih (by omega); omega
  | case3 p h1 => omega
theorem step_good {s : ByteArray} {p : Nat} {x : S27} (hA : Ascii s) (hs : s.size ≤ 65536) (hg : Good s p x) : ∃ t, step1 strings_ToLower.f strings_EqualFold.f s p (stepOf x) = some t ∧ t.pos ≤ s.size ∧
    (x.f0 = 0 → Ev (fun k => spec_tagNext.f k (s.extract 0 x.f1.toNat) (p : Nat)) (t.ty, t.name, t.self, t.start, ((t.pos : Nat) : Int), t.ok)) ∧ (x.f0 ≠ 0 → Ev (fun k => spec_tagSkip.f (s.extract 0 x.f1.toNat) (p : Nat) x.f2) ((t.pos : Nat) : Int) ∧ t = ⟨0, ⟨#[]⟩, false, 0, false, t.pos⟩) := by
  obtain ⟨h0, h1, h2, h3⟩ := hg
  obtain ⟨lim, hl⟩ : ∃ lim : Nat, x.f1 = (lim : Int) := ⟨x.f1.toNat, by omega⟩
  rw [hl] at h1 h2
  have hz : (s.extract 0 lim).size = lim := by simp; omega
  have hv := vw_self (s := s) (lim := lim) (by omega)
  have hE := ascii_ext hA 0 lim
  have et : x.f1.toNat = lim := by rw [hl]; rfl
  rw [et]
  by_cases hx : x.f0 = 0
  · obtain ⟨t, e1, e2⟩ := next_ev hE (by omega) _ p rfl (by omega)
    rw [hz] at e1
    have e3 := hv.next strings_ToLower.f p
    rw [Nat.add_zero, Nat.add_zero, mvT0] at e3
    rw [e1] at e3
    have hst : stepOf x = ⟨0, (lim : Nat), x.f2⟩ := by unfold stepOf; rw [hx, hl]
    have hf := next_fine e3 (by omega)
    refine ⟨⟨t.ty, t.name, t.self, t.start, t.ok, t.pos⟩, by rw [hst]; exact step_next x.f2 (by omega) (by omega) e3, Nat.le_trans hf.2.1 (by omega), fun _ => e2, fun h => absurd hx h⟩
  · have hx1 : x.f0 = 1 := by omega
    obtain ⟨g1, g2⟩ := h3 hx1
    have e1 := skip_eq hE g1 (by omega) _ p rfl (by omega)
    rw [hz] at e1
    rw [← skipRaw_vw hv] at e1
    have hst : stepOf x = ⟨1, (lim : Nat), x.f2⟩ := by unfold stepOf; rw [hx1, hl]
    have hk := skipS_le (s := s.extract 0 lim) (nm := x.f2) p (by omega)
    refine ⟨⟨0, ⟨#[]⟩, false, 0, false, skipS (s.extract 0 lim) x.f2 p⟩, by rw [hst]; exact LawC.step_skip (by omega) (by omega) e1, by show skipS (s.extract 0 lim) x.f2 p ≤ _; omega, fun h => absurd h hx, fun _ => ⟨?_, rfl⟩⟩
    refine Ev.congr (f := fun _ => some ((skipS (s.extract 0 lim) x.f2 p : Nat) : Int)) (fun k => ?_) (Ev.now _)
    unfold spec_tagSkip.f
    rw [if_pos ⟨by omega, by omega, by omega, by omega⟩]
    rfl

/-! ### the script -/
def posAt (t : NextW.Told) : Nat := t.pos
inductive Known (s : ByteArray) : Nat → List S27 → Prop
  | nil (p : Nat) : Known s p []
  | cons {p : Nat} {x : S27} {l : List S27} {t : NextW.Told} (hg : Good s p x) (ht : step1 strings_ToLower.f strings_EqualFold.f s p (stepOf x) = some t) (hl : Known s t.pos l) : Known s p (x :: l)
theorem rd_at {l : List S27} {j : Nat} {x : S27} (h : l[j]? = some x) : rd_T27 l (j : Nat) = x := by
  unfold rd_T27
  obtain ⟨h1, h2⟩ := List.getElem?_eq_some_iff.1 h
  rw [show (((j : Nat) : Int)).toNat = j from rfl]
  simp [List.getD, h]
theorem tags_ev {s : ByteArray} (hA : Ascii s) (hs : s.size ≤ 65536) (l : List S27) (hlen : l.length ≤ 100000) : ∀ (r : List S27) (p j : Nat) (acc : List S32), l.drop j = r → j ≤ l.length → acc.length = j → Known s p r →
    ∃ ts, tags strings_ToLower.f strings_EqualFold.f s p (r.map stepOf) = some ts ∧ Ev (fun k => spec_Tags.l0 k s (p : Nat) l acc (j : Nat)) (acc ++ ts.map conv) := by
  intro r
  induction r with
  | nil =>
    intro p j acc hr hj ha hk
    have hjl : j = l.length := by have := congrArg List.length hr; simp at this; omega
    refine ⟨[], rfl, Ev.step (f := fun _ => some (acc ++ [])) (fun k => ?_) (Ev.now _)⟩
    simp only [spec_Tags.l0]
    rw [if_neg (by omega), List.append_nil]
  | cons x r ih =>
    intro p j acc hr hj ha hk
    have hjl : j < l.length := by have := congrArg List.length hr; simp at this; omega
    have hxj : l[j]? = some x := by rw [← List.head?_drop, hr]; rfl
    have hdr : l.drop (j + 1) = r := by rw [← List.tail_drop, hr]; rfl
    cases hk with
    | @cons _ _ _ t hg ht hl =>
      obtain ⟨t', e1, e2, e3, e4⟩ := step_good hA hs hg
      rw [ht] at e1
      cases e1
      obtain ⟨ts, f1, f2⟩ := ih t.pos (j + 1) (acc ++ [conv t]) hdr (by omega) (by simp [ha]) hl
      refine ⟨t :: ts, tags_cons ht f1, ?_⟩
      rw [List.append_assoc] at f2
      by_cases hx : x.f0 = 0
      · have hb : Ev (fun k => (spec_tagNext.f k (s.extract 0 x.f1.toNat) (p : Nat)).bind fun bt129 => (spec_Tags.l0 k s bt129.2.2.2.2.1 l (acc ++ [(⟨(⟨bt129.1, bt129.2.1, bt129.2.2.1, bt129.2.2.2.1⟩ : S30), bt129.2.2.2.2.2, bt129.2.2.2.2.1⟩ : S32)]) ((j + 1 : Nat) : Int))) (acc ++ ([conv t] ++ ts.map conv)) := Ev.bind (e3 hx) f2
        refine Ev.step (fun k => ?_) hb
        simp only [spec_Tags.l0]
        rw [if_pos (by omega), if_pos (by omega), rd_at hxj, if_pos (by have := hg.2.1; omega), if_pos hg.2.2.1, if_pos hx, wrap_id _ (by omega)]
        simp only [show (acc.length < 2513169434916) = True from eq_true (by omega), if_true]
        rfl
      · obtain ⟨g1, g2⟩ := e4 hx
        have hb : Ev (fun k => (spec_tagSkip.f (s.extract 0 x.f1.toNat) (p : Nat) x.f2).bind fun t139 => (spec_Tags.l0 k s t139 l (acc ++ [(⟨(⟨0, (⟨#[]⟩ : ByteArray), false, 0⟩ : S30), false, t139⟩ : S32)]) ((j + 1 : Nat) : Int))) (acc ++ ([conv t] ++ ts.map conv)) := Ev.bind g1 (by
          have hc : conv t = ⟨⟨0, ⟨#[]⟩, false, 0⟩, false, ((t.pos : Nat) : Int)⟩ := by rw [g2]; rfl
          rw [hc] at f2 ⊢; exact f2)
        refine Ev.step (fun k => ?_) hb
        simp only [spec_Tags.l0]
        rw [if_pos (by omega), if_pos (by omega), rd_at hxj, if_pos (by have := hg.2.1; omega), if_pos hg.2.2.1, if_neg hx, wrap_id _ (by omega)]
        simp only [show (acc.length < 2513169434916) = True from eq_true (by omega), if_true]
        rfl
theorem tags_ev' {s : ByteArray} (hA : Ascii s) (hs : s.size ≤ 65536) (l : List S27) (hlen : l.length ≤ 100000) (p : Nat) (hk : Known s p l) : ∃ ts, tags strings_ToLower.f strings_EqualFold.f s p (l.map stepOf) = some ts ∧ Ev (fun k => spec_Tags.f k s (p : Nat) l) (ts.map conv) := by
  obtain ⟨ts, h1, h2⟩ := tags_ev hA hs l hlen l p 0 [] rfl (Nat.zero_le _) rfl hk
  rw [List.nil_append] at h2
  exact ⟨ts, h1, h2⟩

/-! ### what is known -/
theorem ascii_ev {s : ByteArray} (hs : s.size ≤ 140737488355328) : ∃ b, Ev (fun k => spec_tagAscii.f k s) b ∧ (b = true → Ascii s) := by
  have key : ∀ d j, s.size - j = d → j ≤ s.size → ∃ b, Ev (fun k => spec_tagAscii.l0 k s (j : Nat)) b ∧ (b = true → ∀ i, j ≤ i → i < s.size → bt s (i : Nat) ≤ 127) := by
    intro d
    induction d with
    | zero =>
      intro j hd hj
      refine ⟨true, Ev.step (f := fun _ => some true) (fun k => ?_) (Ev.now _), fun _ i h1 h2 => by omega⟩
      simp only [spec_tagAscii.l0]; rw [if_neg (by omega)]
    | succ d ih =>
      intro j hd hj
      by_cases hc : bt s (j : Nat) > 127
      · refine ⟨false, Ev.step (f := fun _ => some false) (fun k => ?_) (Ev.now _), fun h => by cases h⟩
        simp only [spec_tagAscii.l0]; rw [if_pos (by omega), if_pos (by omega), if_pos hc]
      · obtain ⟨b, h1, h2⟩ := ih (j + 1) (by omega) (by omega)
        refine ⟨b, Ev.step (fun k => ?_) h1, fun hb i g1 g2 => ?_⟩
        · simp only [spec_tagAscii.l0]; rw [if_pos (by omega), if_pos (by omega), if_neg hc, wrap_id _ (by omega)]; rfl
        · rcases Nat.eq_or_lt_of_le g1 with e | e
          · subst e; omega
          · exact h2 hb i e g2
  obtain ⟨b, h1, h2⟩ := key _ 0 rfl (Nat.zero_le _)
  refine ⟨b, h1, fun hb j c hc => ?_⟩
  obtain ⟨g1, g2⟩ := byte_bt hc
  have := h2 hb j (Nat.zero_le _) g2
  omega
theorem known_ev {s : ByteArray} (hA : Ascii s) (hs : s.size ≤ 65536) (l : List S27) (hlen : l.length ≤ 100000) (hn : ∀ x ∈ l, x.f2.size ≤ 2147483647) : ∀ (r : List S27) (p j : Nat), l.drop j = r → j ≤ l.length → p ≤ s.size → ∃ b, Ev (fun k => spec_TagsKnown.l0 k s (p : Nat) l (j : Nat)) b ∧ (b = true → Known s p r) := by
  intro r
  induction r with
  | nil =>
    intro p j hr hj hp
    have hjl : j = l.length := by have := congrArg List.length hr; simp at this; omega
    refine ⟨true, Ev.step (f := fun _ => some true) (fun k => ?_) (Ev.now _), fun _ => .nil p⟩
    simp only [spec_TagsKnown.l0]; rw [if_neg (by omega)]
  | cons x r ih =>
    intro p j hr hj hp
    have hjl : j < l.length := by have := congrArg List.length hr; simp at this; omega
    have hxj : l[j]? = some x := by rw [← List.head?_drop, hr]; rfl
    have hdr : l.drop (j + 1) = r := by rw [← List.tail_drop, hr]; rfl
    have hone : (l.take (j + 1)).drop j = [x] := by
      rw [List.take_add_one, hxj, List.drop_append_of_le_length (by simp; omega)]
      simp
    have hxn := hn x (List.mem_of_getElem? hxj)
    -- what happens where the step is good
    have good : Good s p x → ∃ b, Ev (fun k => (spec_Tags.f k s (p : Nat) [x]).bind fun t151 => (if 0 < (t151.length : Int) then (spec_TagsKnown.l0 k s ((rd_T32 t151 0).f2) l ((j + 1 : Nat) : Int)) else (none))) b ∧ (b = true → Known s p (x :: r)) := by
      intro hg
      obtain ⟨t, e1, e2, e3, e4⟩ := step_good hA hs hg
      obtain ⟨b, b1, b2⟩ := ih t.pos (j + 1) hdr (by omega) e2
      obtain ⟨ts, h1, h2⟩ := tags_ev' hA hs [x] (by simp) p (.cons hg e1 (.nil _))
      have hts : ts = [t] := by
        have := tags_one e1
        rw [show [x].map stepOf = [stepOf x] from rfl, this] at h1
        exact (Option.some.inj h1).symm
      subst hts
      exact ⟨b, Ev.bind h2 b1, fun hb => .cons hg e1 (b2 hb)⟩
    by_cases h0 : x.f0 = 0
    · by_cases h1 : x.f1 < (p : Int)
      · refine ⟨false, Ev.step (f := fun _ => some false) (fun k => ?_) (Ev.now _), fun h => by cases h⟩
        simp only [spec_TagsKnown.l0]; rw [if_pos (by omega), if_pos (by omega), rd_at hxj, if_pos h0, if_pos h1]
      · by_cases h2 : x.f1 > (s.size : Int)
        · refine ⟨false, Ev.step (f := fun _ => some false) (fun k => ?_) (Ev.now _), fun h => by cases h⟩
          simp only [spec_TagsKnown.l0]; rw [if_pos (by omega), if_pos (by omega), rd_at hxj, if_pos h0, if_neg h1, if_pos h2]
        · obtain ⟨b, b1, b2⟩ := good ⟨.inl h0, by omega, by omega, fun h => by omega⟩
          refine ⟨b, Ev.step (fun k => ?_) b1, b2⟩
          simp only [spec_TagsKnown.l0]
          rw [if_pos (by omega), if_pos (by omega), rd_at hxj, if_pos h0, if_neg h1, if_neg h2, if_neg (by omega), wrap_id (((j : Nat) : Int) + 1) (by omega), if_pos (by omega), if_pos (by omega), show (((j : Nat) : Int) + 1).toNat = j + 1 by omega, show ((j : Nat) : Int).toNat = j from rfl, hone]
          rfl
    · by_cases h3 : x.f0 = 1
      · by_cases h1 : x.f1 < (p : Int)
        · refine ⟨false, Ev.step (f := fun _ => some false) (fun k => ?_) (Ev.now _), fun h => by cases h⟩
          simp only [spec_TagsKnown.l0]; rw [if_pos (by omega), if_pos (by omega), rd_at hxj, if_neg h0, if_pos h3, if_pos h1]
        · by_cases h2 : x.f1 > (s.size : Int)
          · refine ⟨false, Ev.step (f := fun _ => some false) (fun k => ?_) (Ev.now _), fun h => by cases h⟩
            simp only [spec_TagsKnown.l0]; rw [if_pos (by omega), if_pos (by omega), rd_at hxj, if_neg h0, if_pos h3, if_neg h1, if_pos h2]
          · by_cases h4 : x.f2.toList = ([] : List UInt8)
            · refine ⟨false, Ev.step (f := fun _ => some false) (fun k => ?_) (Ev.now _), fun h => by cases h⟩
              simp only [spec_TagsKnown.l0]; rw [if_pos (by omega), if_pos (by omega), rd_at hxj, if_neg h0, if_pos h3, if_neg h1, if_neg h2, if_pos h4]
            · obtain ⟨a, a1, a2⟩ := ascii_ev (s := x.f2) (by omega)
              cases ha : a with
              | false =>
                subst ha
                have hb : Ev (fun k => (spec_tagAscii.f k x.f2).bind fun t163 => (if t163 = true then (spec_Tags.f k s (p : Nat) [x]).bind fun t151 => (if 0 < (t151.length : Int) then (spec_TagsKnown.l0 k s ((rd_T32 t151 0).f2) l ((j + 1 : Nat) : Int)) else (none)) else some false)) false := Ev.bind a1 (Ev.now _)
                refine ⟨false, Ev.step (fun k => ?_) hb, fun h => by cases h⟩
                simp only [spec_TagsKnown.l0]
                rw [if_pos (by omega), if_pos (by omega), rd_at hxj, if_neg h0, if_pos h3, if_neg h1, if_neg h2, if_neg h4, wrap_id (((j : Nat) : Int) + 1) (by omega), if_pos (show ((j : Nat) : Int) ≤ ((j : Nat) : Int) + 1 by omega), if_pos (show ((j : Nat) : Int) + 1 ≤ (l.length : Int) by omega), show (((j : Nat) : Int) + 1).toNat = j + 1 by omega, show ((j : Nat) : Int).toNat = j from rfl, hone]
                rfl
              | true =>
                subst ha
                obtain ⟨b, b1, b2⟩ := good ⟨.inr h3, by omega, by omega, fun _ => ⟨a2 rfl, hxn⟩⟩
                have hb : Ev (fun k => (spec_tagAscii.f k x.f2).bind fun t163 => (if t163 = true then (spec_Tags.f k s (p : Nat) [x]).bind fun t151 => (if 0 < (t151.length : Int) then (spec_TagsKnown.l0 k s ((rd_T32 t151 0).f2) l ((j + 1 : Nat) : Int)) else (none)) else some false)) b := Ev.bind a1 b1
                refine ⟨b, Ev.step (fun k => ?_) hb, b2⟩
                simp only [spec_TagsKnown.l0]
                rw [if_pos (by omega), if_pos (by omega), rd_at hxj, if_neg h0, if_pos h3, if_neg h1, if_neg h2, if_neg h4, wrap_id (((j : Nat) : Int) + 1) (by omega), if_pos (show ((j : Nat) : Int) ≤ ((j : Nat) : Int) + 1 by omega), if_pos (show ((j : Nat) : Int) + 1 ≤ (l.length : Int) by omega), show (((j : Nat) : Int) + 1).toNat = j + 1 by omega, show ((j : Nat) : Int).toNat = j from rfl, hone]
                rfl
      · refine ⟨false, Ev.step (f := fun _ => some false) (fun k => ?_) (Ev.now _), fun h => by cases h⟩
        simp only [spec_TagsKnown.l0]; rw [if_pos (by omega), if_pos (by omega), rd_at hxj, if_neg h0, if_neg h3]
/-- What TagsKnown answers. -/
theorem tagsKnown_ev {s : ByteArray} (hs : s.size ≤ 65536) (pos : Int) (l : List S27) (hlen : l.length ≤ 100000) (hn : ∀ x ∈ l, x.f2.size ≤ 2147483647) : ∃ b, Ev (fun k => spec_TagsKnown.f k s pos l) b ∧ (b = true → Ascii s ∧ ∃ p : Nat, pos = (p : Int) ∧ p ≤ s.size ∧ Known s p l) := by
  have bad : ∀ k, spec_TagsKnown.j0 (k + 1) s pos l true = some false := fun k => by simp only [spec_TagsKnown.j0]; rw [if_pos trivial]
  by_cases h1 : pos < 0
  · refine ⟨false, Ev.congr (f := fun k => spec_TagsKnown.j0 k s pos l true) (fun k => by unfold spec_TagsKnown.f; rw [if_pos h1]) (Ev.step (f := fun _ => some false) bad (Ev.now _)), fun h => by cases h⟩
  · by_cases h2 : pos > (s.size : Int)
    · refine ⟨false, Ev.congr (f := fun k => spec_TagsKnown.j0 k s pos l true) (fun k => by unfold spec_TagsKnown.f; rw [if_neg h1, if_pos h2]) (Ev.step (f := fun _ => some false) bad (Ev.now _)), fun h => by cases h⟩
    · obtain ⟨a, a1, a2⟩ := ascii_ev (s := s) (by omega)
      obtain ⟨p, rfl⟩ : ∃ p : Nat, pos = (p : Int) := ⟨pos.toNat, by omega⟩
      have hf : ∀ {b}, Ev (fun k => (spec_tagAscii.f k s).bind fun t143 => (spec_TagsKnown.j0 k s (p : Nat) l (!t143))) b → Ev (fun k => spec_TagsKnown.f k s (p : Nat) l) b := fun h => Ev.congr (fun k => by unfold spec_TagsKnown.f; rw [if_neg h1, if_neg h2]) h
      cases ha : a with
      | false =>
        subst ha
        exact ⟨false, hf (Ev.bind a1 (Ev.step (f := fun _ => some false) bad (Ev.now _))), fun h => by cases h⟩
      | true =>
        subst ha
        obtain ⟨b, b1, b2⟩ := known_ev (a2 rfl) hs l hlen hn l p 0 rfl (Nat.zero_le _) (by omega)
        refine ⟨b, hf (Ev.bind a1 (Ev.step (fun k => ?_) b1)), fun hb => ⟨a2 rfl, p, rfl, by omega, b2 hb⟩⟩
        simp only [spec_TagsKnown.j0]
        rw [if_neg (by simp)]
        rfl
end Go.Proofs.YthjddnmfpdcjnaaDoor.SpecI
