/- The parts of a text between slashes: the library's own pieces are these parts; how parts and joined texts go together. No program here. -/
import Derived.Test.YtckfbpgjegbmlaaUtf0
import Derived.Lib.FieldsP
set_option linter.unusedVariables false
namespace Go.Proofs.Ytckfbpgjegbmlaa.Flds0
open Go.RowKit Go.Proofs.YtckfbpgjegbmlaaW.PrintWords Go.Proofs.Ytckfbpgjegbmlaa.Lib0 Go.Proofs.Ytckfbpgjegbmlaa.Utf0

def fpart (cur : List UInt8) : List (List UInt8) := if cur = [] then [] else [cur]
def flds : List UInt8 → List UInt8 → List (List UInt8)
  | [], cur => fpart cur
  | c :: l, cur => if c = 47 then fpart cur ++ flds l [] else flds l (cur ++ [c])

theorem flds_free (f : List UInt8) : ∀ (l cur : List UInt8), 47 ∉ f → flds (f ++ l) cur = flds l (cur ++ f) := by
  induction f with
  | nil => intro l cur _; simp
  | cons c f ih =>
    intro l cur h
    have hc : ¬ c = 47 := fun e => h (by rw [e]; exact List.mem_cons_self)
    rw [List.cons_append, flds, if_neg hc, ih l (cur ++ [c]) (fun e => h (List.mem_cons_of_mem _ e))]
    simp

theorem flds_slash (l cur : List UInt8) : flds (47 :: l) cur = fpart cur ++ flds l [] := by rw [flds, if_pos rfl]

/-- each fpart is not empty and has no slash. -/
theorem flds_good : ∀ (l cur : List UInt8), 47 ∉ cur → ∀ f ∈ flds l cur, f ≠ [] ∧ 47 ∉ f := by
  intro l
  induction l with
  | nil =>
    intro cur hc f hf
    unfold flds fpart at hf
    split at hf
    · cases hf
    · rw [List.mem_singleton] at hf; subst hf; exact ⟨by assumption, hc⟩
  | cons c l ih =>
    intro cur hc f hf
    unfold flds at hf
    split at hf
    · rw [List.mem_append] at hf
      rcases hf with hf | hf
      · unfold fpart at hf
        split at hf
        · cases hf
        · rw [List.mem_singleton] at hf; subst hf; exact ⟨by assumption, hc⟩
      · exact ih [] (by simp) f hf
    · rename_i hne
      exact ih (cur ++ [c]) (by simp only [List.mem_append, List.mem_singleton, not_or]; exact ⟨hc, fun e => hne e.symm⟩) f hf

def total : List (List UInt8) → Nat
  | [] => 0
  | f :: fs => f.length + 1 + total fs
theorem total_app (a b : List (List UInt8)) : total (a ++ b) = total a + total b := by
  induction a with
  | nil => simp [total]
  | cons f a ih => simp only [List.cons_append, total, ih]; omega
theorem total_fpart (cur : List UInt8) : total (fpart cur) ≤ cur.length + 1 := by
  unfold fpart; split <;> simp [total]
theorem flds_total : ∀ (l cur : List UInt8), total (flds l cur) ≤ cur.length + l.length + 1 := by
  intro l
  induction l with
  | nil => intro cur; unfold flds; have := total_fpart cur; simp; omega
  | cons c l ih =>
    intro cur
    unfold flds
    split
    · rw [total_app]
      have h1 := total_fpart cur
      have h2 := ih []
      simp at h2 ⊢; omega
    · have := ih (cur ++ [c])
      simp at this ⊢; omega

/-- what stands for a text's beginning: the parts that are done, and the one that is open. -/
def Stands (s : List UInt8) (done : List (List UInt8)) (cur : List UInt8) : Prop := ∀ rest, flds (s ++ rest) [] = done ++ flds rest cur
theorem stands_nil : Stands [] [] [] := fun rest => by simp
theorem Stands.slash {s : List UInt8} {done : List (List UInt8)} {cur : List UInt8} (h : Stands s done cur) : Stands (s ++ [47]) (done ++ fpart cur) [] := fun rest => by
  rw [List.append_assoc, h]
  show done ++ flds (47 :: rest) cur = _
  rw [flds_slash, List.append_assoc]
theorem Stands.free {s : List UInt8} {done : List (List UInt8)} {cur f : List UInt8} (h : Stands s done cur) (hf : 47 ∉ f) : Stands (s ++ f) done (cur ++ f) := fun rest => by
  rw [List.append_assoc, h, flds_free _ _ _ hf]
theorem Stands.ends {s : List UInt8} {done : List (List UInt8)} {cur : List UInt8} (h : Stands s done cur) : flds s [] = done ++ fpart cur := by
  have := h []
  rw [List.append_nil] at this
  rw [this]; rfl

theorem flds_step {l : List UInt8} (i : Nat) (hi : i < l.length) (cur : List UInt8) : flds (l.drop i) cur = if l[i] = 47 then fpart cur ++ flds (l.drop (i + 1)) [] else flds (l.drop (i + 1)) (cur ++ [l[i]]) := by
  rw [List.drop_eq_getElem_cons hi, flds]

theorem byte_at (s : ByteArray) (i : Nat) (h : i < s.data.toList.length) : bt s i = ((s.data.toList[i]).toNat : Int) := by
  rw [bt_list, show ((i : Int)).toNat = i from rfl, getD_in _ _ _ h]
theorem byte_sl (c : UInt8) : ((c.toNat : Int) = 47) ↔ c = 47 := by
  constructor
  · intro h
    apply UInt8.toNat_inj.1
    show c.toNat = 47
    omega
  · rintro rfl; rfl

theorem flds_jump (s : ByteArray) (pos : Nat) : ∀ (w : Nat) (cur : List UInt8), pos + w ≤ s.size → (∀ j : Nat, pos ≤ j → j < pos + w → bt s j ≠ 47) →
    flds (s.data.toList.drop pos) cur = flds (s.data.toList.drop (pos + w)) (cur ++ (s.data.toList.take (pos + w)).drop pos) := by
  intro w
  induction w with
  | zero => intro cur _ _; simp
  | succ w ih =>
    intro cur hw hb
    rw [ih cur (by omega) (fun j a b => hb j a (by omega))]
    have hl : pos + w < s.data.toList.length := by rw [size_len]; omega
    have hne : ¬ s.data.toList[pos + w] = 47 := fun e => hb (pos + w) (by omega) (by omega) (by rw [byte_at s _ hl, byte_sl]; exact e)
    rw [flds_step (pos + w) hl, if_neg hne]
    congr 1
    rw [List.append_assoc]
    congr 1
    rw [show pos + (w + 1) = pos + w + 1 by omega, List.take_succ_eq_append_getElem hl, List.drop_append_of_le_length (by simp; omega)]

/-- the piece from a place to a place. -/
def piece (s : ByteArray) (a b : Nat) : List UInt8 := (s.data.toList.take b).drop a
theorem piece_add (s : ByteArray) (a b c : Nat) (h1 : a ≤ b) (h2 : b ≤ c) (h3 : c ≤ s.size) : piece s a b ++ piece s b c = piece s a c := by
  unfold piece
  have hc : c ≤ s.data.toList.length := by rw [size_len]; exact h3
  have e : s.data.toList.take b = (s.data.toList.take c).take b := by rw [List.take_take, Nat.min_eq_left h2]
  rw [e]
  generalize s.data.toList.take c = l
  have : l.drop a = (l.take b).drop a ++ l.drop b := by
    rw [List.drop_take, show l.drop b = (l.drop a).drop (b - a) by rw [List.drop_drop]; congr 1; omega, List.take_append_drop]
  exact this.symm
theorem piece_len (s : ByteArray) (a b : Nat) (h3 : b ≤ s.size) : (piece s a b).length = b - a := by
  unfold piece
  have := size_len s
  simp; omega
theorem piece_data (s : ByteArray) (a b : Nat) : (s.extract a b).data.toList = piece s a b := data_ext s a b

theorem flds_span (s : ByteArray) (p : Nat → Bool) (hp : ∀ x, p x = true ↔ x = 47) : ∀ (f pos : Nat) (st : Option Nat) (acc : List (Nat × Nat)), s.size - pos ≤ f → pos ≤ s.size → (∀ a, st = some a → a < pos) →
    (Lib.closeSpans s (Lib.spansFromP p s f pos st acc)).map (fun x => piece s x.1 x.2) = acc.map (fun x => piece s x.1 x.2) ++ flds (s.data.toList.drop pos) (match st with | some a => piece s a pos | none => []) := by
  intro f
  induction f with
  | zero =>
    intro pos st acc h0 h1 h2
    have : pos = s.size := by omega
    subst this
    have hd : s.data.toList.drop s.size = [] := List.drop_eq_nil_of_le (by rw [size_len]; exact Nat.le_refl _)
    rw [hd]
    unfold Lib.spansFromP Lib.closeSpans
    cases st with
    | none => simp [flds, fpart]
    | some a =>
      have := h2 a rfl
      have hn : piece s a s.size ≠ [] := fun e => by have := piece_len s a s.size (Nat.le_refl _); rw [e] at this; simp at this; omega
      simp [flds, fpart, hn]
  | succ f ih =>
    intro pos st acc h0 h1 h2
    by_cases hlt : pos < s.size
    · have sp := span s pos hlt
      have hl : pos < s.data.toList.length := by rw [size_len]; exact hlt
      unfold Lib.spansFromP
      rw [if_pos hlt]
      by_cases hb : bt s pos = 47
      · obtain ⟨w1, r1⟩ := sp.low (by omega)
        have hx : p (Utf8.decode s pos).1 = true := (hp _).2 (by omega)
        have he : s.data.toList[pos] = 47 := by rw [← byte_sl, ← byte_at]; exact hb
        rw [if_pos hx, w1]
        cases st with
        | none =>
          simp only []
          rw [ih (pos + 1) none acc (by omega) (by omega) (fun a e => by cases e), flds_step pos hl, if_pos he]
          simp [fpart]
        | some a =>
          simp only []
          have := h2 a rfl
          have hn : piece s a pos ≠ [] := fun e => by have := piece_len s a pos h1; rw [e] at this; simp at this; omega
          rw [ih (pos + 1) none _ (by omega) (by omega) (fun a e => by cases e), flds_step pos hl, if_pos he]
          simp [fpart, hn]
      · have hx : ¬ p (Utf8.decode s pos).1 = true := fun e => by
          have e1 := (hp _).1 e
          by_cases q : bt s pos < 128
          · have := (sp.low q).2; omega
          · have := (sp.high (by omega)).1; omega
        have hfree : ∀ j : Nat, pos ≤ j → j < pos + (Utf8.decode s pos).2 → bt s j ≠ 47 := fun j a b => by
          by_cases q : bt s pos < 128
          · have := (sp.low q).1
            have : j = pos := by omega
            rw [this]; exact hb
          · have := (sp.high (by omega)).2 j a b; omega
        have one := sp.one
        have fits := sp.fits
        rw [if_neg hx]
        cases st with
        | none =>
          simp only []
          rw [ih _ (some pos) acc (by omega) (by omega) (fun a e => by cases e; omega)]
          simp only []
          rw [flds_jump s pos _ [] (by omega) hfree]
          rfl
        | some a =>
          simp only []
          have := h2 a rfl
          rw [ih _ (some a) acc (by omega) (by omega) (fun a e => by cases e; omega)]
          simp only []
          rw [flds_jump s pos _ (piece s a pos) (by omega) hfree]
          rw [← piece_add s a pos _ (by omega) (by omega) fits]
          rfl
    · have : pos = s.size := by omega
      subst this
      have hd : s.data.toList.drop s.size = [] := List.drop_eq_nil_of_le (by rw [size_len]; exact Nat.le_refl _)
      rw [hd]
      unfold Lib.spansFromP Lib.closeSpans
      rw [if_neg hlt]
      cases st with
      | none => simp [flds, fpart]
      | some a =>
        have := h2 a rfl
        have hn : piece s a s.size ≠ [] := fun e => by have := piece_len s a s.size (Nat.le_refl _); rw [e] at this; simp at this; omega
        simp [flds, fpart, hn]

theorem fields_are (s : ByteArray) (p : Nat → Bool) (hp : ∀ x, p x = true ↔ x = 47) : (Lib.goFieldsP p s).map (fun x => x.data.toList) = flds s.data.toList [] := by
  unfold Lib.goFieldsP Lib.spansOfP
  rw [List.map_map]
  have := flds_span s p hp s.size 0 none [] (by omega) (by omega) (fun a e => by cases e)
  simp only [List.map_nil, List.nil_append, List.drop_zero] at this
  rw [← this]
  congr 1
  funext x
  exact piece_data s x.1 x.2

end Go.Proofs.Ytckfbpgjegbmlaa.Flds0
