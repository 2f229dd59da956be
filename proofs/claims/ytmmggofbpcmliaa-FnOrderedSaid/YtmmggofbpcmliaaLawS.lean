/- Ordered maps: what the model answers; no program here. -/
import Derived.Test.YtmmggofbpcmliaaLawR
set_option linter.unusedVariables false
namespace Go.Proofs.Ytmmggofbpcmliaa.OrdW
open Go.Rx hiding bt
open Go.RowKit
def okeys (l : OL) : List ByteArray := l.map (·.1)
theorem okeys_len (l : OL) : (okeys l).length = l.length := List.length_map ..
theorem inB_iff (o : List ByteArray) (s : ByteArray) : inB o s = true ↔ s ∈ o := by
  unfold inB
  rw [List.any_eq_true]
  constructor
  · rintro ⟨x, hx, h⟩; obtain rfl := of_decide_eq_true h; exact hx
  · intro h; exact ⟨s, h, decide_eq_true rfl⟩
theorem fst1_in {o : List ByteArray} {s : ByteArray} (h : s ∈ o) : fst1 o s = o := by unfold fst1; rw [if_pos ((inB_iff o s).2 h)]
theorem fst1_new {o : List ByteArray} {s : ByteArray} (h : s ∉ o) : fst1 o s = o ++ [s] := by unfold fst1; rw [if_neg (fun c => h ((inB_iff o s).1 c))]
theorem fst1_nodup {o : List ByteArray} (h : o.Nodup) (s : ByteArray) : (fst1 o s).Nodup := by
  by_cases hs : s ∈ o
  · rw [fst1_in hs]; exact h
  · rw [fst1_new hs, List.nodup_append]
    exact ⟨h, by simp, fun a ha b hb => by simp only [List.mem_singleton] at hb; subst hb; exact fun e => hs (e ▸ ha)⟩
theorem okeys_oset (k : ByteArray) (v : Int) (l : OL) : okeys (oset k v l) = fst1 (okeys l) k := by
  induction l with
  | nil => rfl
  | cons p l ih =>
    obtain ⟨a, u⟩ := p
    unfold oset
    split
    · rename_i e
      subst e
      rw [fst1_in (by simp [okeys])]
      rfl
    · rename_i e
      show a :: okeys (oset k v l) = fst1 (a :: okeys l) k
      rw [ih]
      by_cases h : k ∈ okeys l
      · rw [fst1_in h, fst1_in (List.mem_cons_of_mem _ h)]
      · rw [fst1_new h, fst1_new (by simp only [List.mem_cons, not_or]; exact ⟨fun c => e c.symm, h⟩)]
        rfl
/-- Without the first k. -/
def del1 (k : ByteArray) : List ByteArray → List ByteArray
  | [] => []
  | a :: r => if a = k then r else a :: del1 k r
theorem okeys_odel (k : ByteArray) (l : OL) : okeys (odel k l) = del1 k (okeys l) := by
  induction l with
  | nil => rfl
  | cons p l ih =>
    obtain ⟨a, u⟩ := p
    show _ = del1 k (a :: okeys l)
    unfold odel del1
    by_cases e : a = k
    · rw [if_pos e, if_pos e]
    · rw [if_neg e, if_neg e, ← ih]; rfl
theorem del1_sub (k : ByteArray) (l : List ByteArray) : (del1 k l).Sublist l := by
  induction l with
  | nil => exact List.Sublist.refl _
  | cons a l ih =>
    unfold del1
    split
    · exact List.sublist_cons_self _ _
    · exact ih.cons_cons _
theorem del1_filter {k : ByteArray} {l : List ByteArray} (h : l.Nodup) : del1 k l = l.filter (fun a => decide (¬ a = k)) := by
  induction l with
  | nil => rfl
  | cons a l ih =>
    have h' := List.nodup_cons.1 h
    unfold del1
    by_cases e : a = k
    · rw [if_pos e, List.filter_cons_of_neg (by simp [e]), List.filter_eq_self.2]
      intro b hb
      exact decide_eq_true (fun c => h'.1 (by rw [e, ← c]; exact hb))
    · rw [if_neg e, List.filter_cons_of_pos (by simp [e]), ih h'.2]
theorem del1_at {k : ByteArray} : ∀ {l : List ByteArray} {i : Nat}, l.Nodup → l[i]? = some k → del1 k l = l.take i ++ l.drop (i + 1) := by
  intro l
  induction l with
  | nil => intro i _ h; simp at h
  | cons a l ih =>
    intro i hn h
    have h' := List.nodup_cons.1 hn
    unfold del1
    cases i with
    | zero => simp only [List.getElem?_cons_zero, Option.some.injEq] at h; rw [if_pos h]; simp
    | succ i =>
      simp only [List.getElem?_cons_succ] at h
      have e : a ≠ k := fun e => h'.1 (e ▸ List.mem_of_getElem? h)
      rw [if_neg e, ih h'.2 h]
      simp
theorem oget_iff (k : ByteArray) (l : OL) : (oget k l).isSome = true ↔ k ∈ okeys l := by
  induction l with
  | nil => simp [oget, okeys]
  | cons p l ih =>
    obtain ⟨a, u⟩ := p
    show _ ↔ k ∈ a :: okeys l
    unfold oget
    by_cases e : a = k
    · simp [e]
    · rw [if_neg e, ih, List.mem_cons]
      exact ⟨.inr, fun h => h.resolve_left fun c => e c.symm⟩
theorem oget_none {k : ByteArray} {l : OL} (h : k ∉ okeys l) : oget k l = none := by
  cases hg : oget k l with
  | none => rfl
  | some v => exact absurd ((oget_iff k l).1 (by rw [hg]; rfl)) h
theorem oget_oset (k : ByteArray) (v : Int) (l : OL) : oget k (oset k v l) = some v := by
  induction l with
  | nil => simp [oset, oget]
  | cons p l ih =>
    obtain ⟨a, u⟩ := p
    unfold oset
    split
    · simp [oget]
    · rename_i e
      unfold oget
      rw [if_neg e]
      exact ih
/-- A clone is the map itself, where no key is there twice. -/
theorem foldl_oset (f : ByteArray → Int) : ∀ (c d : OL), (∀ p ∈ c, p.1 ∉ okeys d) → (okeys c).Nodup → (∀ p ∈ c, f p.1 = p.2) → c.foldl (fun c p => oset p.1 (f p.1) c) d = d ++ c := by
  intro c
  induction c with
  | nil => intro d _ _ _; simp
  | cons p c ih =>
    obtain ⟨a, u⟩ := p
    intro d h1 h2 h3
    have ha : a ∉ okeys d := h1 (a, u) (List.mem_cons_self ..)
    have hf : f a = u := h3 (a, u) (List.mem_cons_self ..)
    have h2' : a ∉ okeys c ∧ (okeys c).Nodup := List.nodup_cons.1 h2
    simp only [List.foldl_cons]
    rw [hf, oset_new (oget_none ha), ih (d ++ [(a, u)]) (fun p hp => ?_) h2'.2 (fun p hp => h3 p (List.mem_cons_of_mem _ hp))]
    · simp
    · unfold okeys
      rw [List.map_append, List.mem_append]
      rintro (h | h)
      · exact h1 p (List.mem_cons_of_mem _ hp) h
      · simp only [List.map_cons, List.map_nil, List.mem_singleton] at h
        exact h2'.1 (h ▸ List.mem_map_of_mem hp)
theorem oval_at {l : OL} (h : (okeys l).Nodup) : ∀ p ∈ l, oval p.1 l = p.2 := by
  induction l with
  | nil => simp
  | cons q l ih =>
    obtain ⟨a, u⟩ := q
    have h' : a ∉ okeys l ∧ (okeys l).Nodup := List.nodup_cons.1 h
    intro p hp
    rcases List.mem_cons.1 hp with rfl | hp
    · simp [oval, oget]
    · have hne : a ≠ p.1 := fun e => h'.1 (e ▸ List.mem_map_of_mem hp)
      have := ih h'.2 p hp
      unfold oval at this ⊢
      unfold oget
      rw [if_neg hne]
      exact this
theorem ocl_self {l : OL} (h : (okeys l).Nodup) : ocl l l = l := by
  unfold ocl
  have := foldl_oset (fun k => oval k l) l [] (fun p hp => by simp [okeys]) h (oval_at h)
  simpa using this
theorem onext_nodup {l : OL} (h : (okeys l).Nodup) (s : OStep) : (okeys (onext l s)).Nodup := by
  unfold onext
  split
  · rw [okeys_oset]; exact fst1_nodup h _
  · split
    · rw [okeys_odel]; exact h.sublist (del1_sub _ _)
    · split
      · rw [ocl_self h]; exact h
      · exact h
theorem oend_nodup (s : List OStep) : ∀ {l : OL}, (okeys l).Nodup → (okeys (oend l s)).Nodup := by
  induction s with
  | nil => intro l h; exact h
  | cons x s ih => intro l h; exact ih (onext_nodup h x)
theorem oend_snoc (l : OL) (s : List OStep) (x : OStep) : oend l (s ++ [x]) = onext (oend l s) x := by unfold oend; rw [List.foldl_append]; rfl
theorem orun_get (s : List OStep) : ∀ (l : OL) (i : Nat) (x : OStep), s[i]? = some x → (orun l s)[i]? = some (otold (oend l (s.take i)) x) := by
  induction s with
  | nil => intro l i x h; simp at h
  | cons y s ih =>
    intro l i x h
    cases i with
    | zero => simp only [List.getElem?_cons_zero, Option.some.injEq] at h; subst h; rfl
    | succ i => simp only [List.getElem?_cons_succ] at h; exact ih (onext l y) i x h
/-- Keys that are set. -/
theorem okeys_sets (s : List OStep) (h : ∀ x ∈ s, x.op = 0) : ∀ l : OL, okeys (oend l s) = (s.map (·.key)).foldl fst1 (okeys l) := by
  induction s with
  | nil => intro l; rfl
  | cons x s ih =>
    intro l
    have hx : onext l x = oset x.key x.val l := by unfold onext; rw [if_pos (h x (List.mem_cons_self ..))]
    show okeys (oend (onext l x) s) = _
    rw [ih (fun y hy => h y (List.mem_cons_of_mem _ hy)), hx, okeys_oset]
    rfl
theorem okeys_firsts {s : List OStep} (h : ∀ x ∈ s, x.op = 0) : okeys (oend [] s) = firstsM (s.map (·.key)) := okeys_sets s h []
theorem foldl_fst1 : ∀ (l o : List ByteArray), (∀ x ∈ l, x ∉ o) → l.Nodup → l.foldl fst1 o = o ++ l := by
  intro l
  induction l with
  | nil => intro o _ _; simp
  | cons x l ih =>
    intro o h1 h2
    have h2' := List.nodup_cons.1 h2
    rw [List.foldl_cons, fst1_new (h1 x (List.mem_cons_self ..)), ih _ (fun y hy => ?_) h2'.2]
    · simp
    · rw [List.mem_append, List.mem_singleton]
      rintro (h | h)
      · exact h1 y (List.mem_cons_of_mem _ hy) h
      · exact h2'.1 (h ▸ hy)
theorem firsts_self {l : List ByteArray} (h : l.Nodup) : firstsM l = l := by
  have := foldl_fst1 l [] (fun x _ => by simp) h
  simpa [firstsM] using this
theorem foldl_fst1_nodup : ∀ (l o : List ByteArray), o.Nodup → (l.foldl fst1 o).Nodup := by
  intro l
  induction l with
  | nil => intro o h; exact h
  | cons x l ih => intro o h; exact ih _ (fst1_nodup h x)
theorem firsts_nodup (l : List ByteArray) : (firstsM l).Nodup := foldl_fst1_nodup l [] List.nodup_nil
end Go.Proofs.Ytmmggofbpcmliaa.OrdW
