/- What the reference's FieldsSlash answers: the parts between slashes (the printed functions of one statement). -/
import Derived.Test.YtckfbpgjegbmlaaPFnAbsPathx2
import Derived.Test.YtckfbpgjegbmlaaFlds0
set_option linter.unusedVariables false
namespace Go.Proofs.Ytckfbpgjegbmlaa.Ff0FnAbsPath
open Go.RowKit Go.Proofs.Ytckfbpgjegbmlaa.PFnAbsPath Go.Proofs.YtckfbpgjegbmlaaW.PrintWords Go.Proofs.YtckfbpgjegbmlaaW.PrintLast Go.Proofs.Ytckfbpgjegbmlaa.Lib0 Go.Proofs.Ytckfbpgjegbmlaa.Flds0

def datas (l : List ByteArray) : List (List UInt8) := l.map (fun x => x.data.toList)
theorem datas_inj {a b : List ByteArray} (h : datas a = datas b) : a = b := by
  induction a generalizing b with
  | nil => cases b with
    | nil => rfl
    | cons y b => simp [datas] at h
  | cons x a ih => cases b with
    | nil => simp [datas] at h
    | cons y b =>
      simp only [datas, List.map_cons, List.cons.injEq] at h
      rw [bytes_ext h.1, ih h.2]

theorem ff_spec (s : ByteArray) (hs : s.size ≤ 140737488351232) : ∀ (d i from_ : Nat) (acc : List ByteArray), s.size + 1 - i = d → i ≤ s.size + 1 → from_ ≤ i → acc.length ≤ i → acc.length ≤ 200001 → s.size ≤ 200000 →
    ∃ r, Ev (fun k => spec_FieldsSlash.l0 k s acc (from_ : Int) (i : Int)) r ∧ datas r = datas acc ++ (if i ≤ s.size then flds (s.data.toList.drop i) (piece s from_ i) else []) := by
  intro d
  induction d with
  | zero =>
    intro i from_ acc hd hi hf ha ha' hz
    refine ⟨acc, Ev.step (f := fun _ => some acc) (fun k => ?_) (Ev.now _), ?_⟩
    · simp only [spec_FieldsSlash.l0]; rw [if_neg (by omega)]
    · rw [if_neg (by omega), List.append_nil]
  | succ d ih =>
    intro i from_ acc hd hi hf ha ha' hz
    have c1 : (i : Int) ≤ (s.size : Int) := by omega
    have w1 : wrap64 ((i : Int) + 1) = ((i + 1 : Nat) : Int) := by rw [wrap_id _ (by omega)]; rfl
    have pl := piece_len s from_ i (by omega)
    -- a slash, or the end
    have cut : ∃ r, Ev (fun k => spec_FieldsSlash.j1 k s acc (from_ : Int) (i : Int) true) r ∧ datas r = datas acc ++ fpart (piece s from_ i) ++ (if i + 1 ≤ s.size then flds (s.data.toList.drop (i + 1)) [] else []) := by
      by_cases h : i > from_
      · obtain ⟨r, hr, he⟩ := ih (i + 1) (i + 1) (acc ++ [s.extract from_ i]) (by omega) (by omega) (by omega) (by simp; omega) (by simp; omega) hz
        refine ⟨r, Ev.step (fun k => ?_) hr, ?_⟩
        · have b1 : (i : Int) > (from_ : Int) := by omega
          have b2 : (0 : Int) ≤ (from_ : Int) := by omega
          have b3 : (from_ : Int) ≤ (i : Int) := by omega
          have b4 : acc.length < 8796093022208 := by omega
          simp only [spec_FieldsSlash.j1, if_true, if_pos b1, if_pos b2, if_pos b3, if_pos c1, if_pos b4, w1]
          rfl
        · have hn : piece s from_ i ≠ [] := fun e => by rw [e] at pl; simp at pl; omega
          have e0 : piece s (i + 1) (i + 1) = [] := by unfold piece; exact List.drop_eq_nil_of_le (by simp; omega)
          have pd : (s.extract from_ i).data.toList = piece s from_ i := piece_data _ _ _
          rw [he, e0]
          simp only [datas, List.map_append, List.map_cons, List.map_nil, pd, fpart, if_neg hn]
      · have e : from_ = i := by omega
        obtain ⟨r, hr, he⟩ := ih (i + 1) (i + 1) acc (by omega) (by omega) (by omega) (by omega) ha' hz
        refine ⟨r, Ev.step (fun k => ?_) hr, ?_⟩
        · have b1 : ¬ (i : Int) > (from_ : Int) := by omega
          simp only [spec_FieldsSlash.j1, if_true, if_neg b1, w1]
        · have hn : piece s from_ i = [] := List.eq_nil_of_length_eq_zero (by omega)
          have e0 : piece s (i + 1) (i + 1) = [] := by unfold piece; exact List.drop_eq_nil_of_le (by simp; omega)
          rw [he, e0, hn]
          simp [fpart]
    by_cases h : i = s.size
    · obtain ⟨r, hr, he⟩ := cut
      refine ⟨r, Ev.step (fun k => ?_) hr, ?_⟩
      · have b1 : (i : Int) = (s.size : Int) := by omega
        simp only [spec_FieldsSlash.l0, if_pos c1, if_pos b1]
      · have hd' : s.data.toList.drop i = [] := List.drop_eq_nil_of_le (by rw [size_len]; omega)
        rw [he, if_neg (by omega), if_pos (by omega), hd', List.append_nil]; rfl
    · have hlt : i < s.size := by omega
      have hl : i < s.data.toList.length := by rw [size_len]; exact hlt
      have b1 : ¬ (i : Int) = (s.size : Int) := by omega
      have b2 : (0 : Int) ≤ (i : Int) := by omega
      have b3 : (i : Int) < (s.size : Int) := by omega
      by_cases hb : bt s i = 47
      · obtain ⟨r, hr, he⟩ := cut
        refine ⟨r, Ev.step (fun k => ?_) hr, ?_⟩
        · have q : (bt s (i : Int) == 47) = true := by simpa using hb
          simp only [spec_FieldsSlash.l0, if_pos c1, if_neg b1, if_pos b2, if_pos b3, q]
        · have hx : s.data.toList[i] = 47 := by rw [← byte_sl, ← Flds0.byte_at]; exact hb
          rw [he, if_pos (by omega), if_pos (by omega), flds_step i hl, if_pos hx, List.append_assoc]
      · obtain ⟨r, hr, he⟩ := ih (i + 1) from_ acc (by omega) (by omega) (by omega) (by omega) ha' hz
        refine ⟨r, Ev.step (f := fun k => spec_FieldsSlash.j1 k s acc (from_ : Int) (i : Int) false) (fun k => ?_) (Ev.step (fun k => ?_) hr), ?_⟩
        · have q : (bt s (i : Int) == 47) = false := by simpa using hb
          simp only [spec_FieldsSlash.l0, if_pos c1, if_neg b1, if_pos b2, if_pos b3, q]
        · simp only [spec_FieldsSlash.j1, Bool.false_eq_true, if_false, w1]
        · have hx : ¬ s.data.toList[i] = 47 := by rw [← byte_sl, ← Flds0.byte_at]; exact hb
          have pa := piece_add s from_ i (i + 1) (by omega) (by omega) (by omega)
          have p1 : piece s i (i + 1) = [s.data.toList[i]] := by
            unfold piece
            rw [List.take_succ_eq_append_getElem hl, List.drop_append_of_le_length (by simp; omega)]
            simp
          rw [he, if_pos (by omega), if_pos (by omega), flds_step i hl, if_neg hx, ← pa, p1]


theorem ff_tells (s : ByteArray) (hz : s.size ≤ 200000) : ∃ r, Ev (fun k => spec_FieldsSlash.f k s) r ∧ datas r = flds s.data.toList [] := by
  obtain ⟨r, hr, he⟩ := ff_spec s (by omega) (s.size + 1) 0 0 [] (by omega) (by omega) (by omega) (by simp) (by simp) hz
  have e0 : piece s 0 0 = [] := by unfold piece; simp
  rw [if_pos (by omega), e0] at he
  exact ⟨r, Ev.congr (fun k => by unfold spec_FieldsSlash.f; rfl) hr, by rw [he]; simp [datas]⟩

end Go.Proofs.Ytckfbpgjegbmlaa.Ff0FnAbsPath
