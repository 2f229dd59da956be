/- What the functions of a path's name and extension are, over lists of bytes. No program here but the contracts' own functions. -/
import Derived.Test.YtgcadmofjblaeaaDoorOwnExt
import Derived.Test.YtgcadmofjblaeaaDoorLib0
set_option linter.unusedVariables false
namespace Go.Proofs.YtgcadmofjblaeaaDoor.Ext0
open Go.RowKit Go.Lib Go.Proofs.YtgcadmofjblaeaaDoorW.PrintWords Go.Proofs.YtgcadmofjblaeaaDoorW.PrintLast Go.Proofs.YtgcadmofjblaeaaDoor.Lib0

def tailL (l : List UInt8) : List UInt8 := (Pa.split l).2
theorem tail_drop (l : List UInt8) : tailL l = l.drop (Pa.lastIndexByte l 47 + 1).toNat := rfl

theorem tail_no (l : List UInt8) : (47 : UInt8) ∉ tailL l := by
  rw [tail_drop]
  intro h
  obtain ⟨j, hj⟩ := List.getElem?_of_mem h
  rw [List.getElem?_drop] at hj
  rcases Pa.lastIndexByte_spec l 47 with ⟨e, hn⟩ | ⟨i, e, hi, hn⟩
  · exact hn _ hj
  · rw [e] at hj
    exact hn _ (by omega) hj

theorem ext_tells (l : List UInt8) : Pa.ext l = [] ∧ (46 : UInt8) ∉ tailL l ∨ ∃ p d, tailL l = p ++ 46 :: d ∧ Pa.ext l = 46 :: d ∧ (46 : UInt8) ∉ d ∧ (47 : UInt8) ∉ d := by
  have ht := tail_no l
  have hx : Pa.ext l = if 0 ≤ Pa.lastIndexByte (tailL l) 46 then (tailL l).drop (Pa.lastIndexByte (tailL l) 46).toNat else [] := rfl
  rw [hx]
  generalize tailL l = t at ht hx
  rcases Pa.lastIndexByte_spec t 46 with ⟨e, hn⟩ | ⟨i, e, hi, hn⟩
  · left
    rw [e, if_neg (by omega)]
    refine ⟨rfl, fun h => ?_⟩
    obtain ⟨j, hj⟩ := List.getElem?_of_mem h
    exact hn j hj
  · right
    have hl : i < t.length := by
      rcases Nat.lt_or_ge i t.length with h | h
      · exact h
      · rw [List.getElem?_eq_none h] at hi; cases hi
    have he : t[i] = 46 := by rw [List.getElem?_eq_getElem hl] at hi; exact Option.some.inj hi
    have hd : t.drop i = 46 :: t.drop (i + 1) := by rw [List.drop_eq_getElem_cons hl, he]
    refine ⟨t.take i, t.drop (i + 1), ?_, ?_, fun h => ?_, fun h => ?_⟩
    · rw [← hd, List.take_append_drop]
    · rw [e, if_pos (by omega), show ((i : Int)).toNat = i from rfl, hd]
    · obtain ⟨j, hj⟩ := List.getElem?_of_mem h
      rw [List.getElem?_drop] at hj
      exact hn _ (by omega) hj
    · exact ht (List.mem_of_mem_drop h)

theorem base_tail (l : List UInt8) (h : tailL l ≠ []) : Pa.base l = tailL l := by
  have hne : l ≠ [] := by rintro rfl; exact h (by rw [tail_drop]; simp)
  have htr : Pa.trimSlashes l = l := by
    obtain ⟨a, x, e⟩ := List.eq_nil_or_concat l |>.resolve_left hne
    rw [List.concat_eq_append] at e
    subst e
    have hx : x ∈ tailL (a ++ [x]) := by
      rw [tail_drop] at h ⊢
      generalize (Pa.lastIndexByte (a ++ [x]) 47 + 1).toNat = m at h ⊢
      have hm : m ≤ a.length := by
        rcases Nat.lt_or_ge a.length m with g | g
        · exact absurd (List.drop_eq_nil_of_le (by simp; omega)) h
        · exact g
      rw [List.drop_append_of_le_length hm]
      simp
    have hx47 : x ≠ 47 := fun e => tail_no _ (e ▸ hx)
    unfold Pa.trimSlashes
    rw [List.reverse_append]
    simp [List.dropWhile_cons, hx47]
  unfold Pa.base
  rw [if_neg hne, htr]
  exact if_neg h

theorem occ_one (l : List UInt8) (c : UInt8) (i : Nat) : occAt l [c] i = true ↔ l[i]? = some c := by
  unfold occAt
  rw [← List.head?_drop]
  cases l.drop i with
  | nil => simp
  | cons b r =>
    simp only [List.isPrefixOf, Bool.and_true, beq_iff_eq, List.head?_cons, Option.some.injEq]
    exact eq_comm

theorem lastIndex_at (p d : List UInt8) (c : UInt8) (hd : c ∉ d) : lastIndex (p ++ c :: d) [c] = p.length := by
  unfold lastIndex
  rw [if_pos (by simp; omega)]
  have hlen : (p ++ c :: d).length - [c].length + 1 = p.length + d.length + 1 := by simp
  rw [hlen]
  have hp : occAt (p ++ c :: d) [c] p.length = true := (occ_one _ _ _).2 (by simp)
  rcases lastOcc_spec (p ++ c :: d) [c] (p.length + d.length + 1) with ⟨e, hn⟩ | ⟨i, hi, e, hc, hn⟩
  · rw [hn p.length (by omega)] at hp; cases hp
  · rw [e]
    have h1 : ¬ i < p.length := fun g => by rw [hn p.length g (by omega)] at hp; cases hp
    have h2 : ¬ p.length < i := fun g => by
      have := (occ_one _ _ _).1 hc
      rw [List.getElem?_append_right (by omega)] at this
      obtain ⟨q, hq⟩ : ∃ q, i - p.length = q + 1 := ⟨i - p.length - 1, by omega⟩
      rw [hq, List.getElem?_cons_succ] at this
      exact hd (List.mem_of_getElem? this)
    omega

theorem mk_list (l : List UInt8) : (⟨l.toArray⟩ : ByteArray).toList = l := by rw [list_eq]
theorem mk_size (l : List UInt8) : (⟨l.toArray⟩ : ByteArray).size = l.length := by simp [ByteArray.size]

theorem base_le (l : List UInt8) : (Pa.base l).length ≤ l.length + 1 := by
  unfold Pa.base
  split
  · simp
  · split
    · simp
    · have : (Pa.split (Pa.trimSlashes l)).2.length ≤ (Pa.trimSlashes l).length := by
        show ((Pa.trimSlashes l).drop _).length ≤ _
        rw [List.length_drop]; omega
      have h2 : (Pa.trimSlashes l).length ≤ l.length := by
        unfold Pa.trimSlashes
        rw [List.length_reverse]
        have := (List.dropWhile_suffix (l := l.reverse) (fun x => x == 47)).length_le
        rw [List.length_reverse] at this
        exact this
      omega

/-- The name, where there is one. -/
def stem (l : List UInt8) : List UInt8 := if Pa.ext l = [] then Pa.base l else (Pa.base l).take ((Pa.base l).length - (Pa.ext l).length)

theorem j0_tells (s : ByteArray) (hs : s.size ≤ 140737488351232) (v : Bool) :
    PLib5.paths_extractFilename.j0 2 (extB s) (baseB s) v = some (if v = true then ⟨#[]⟩ else ⟨(stem s.data.toList).toArray⟩) := by
  simp only [PLib5.paths_extractFilename.j0]
  cases v with
  | true => rw [if_pos rfl, if_pos rfl]
  | false =>
    rw [if_neg (show ¬ (false = true) by simp), if_neg (show ¬ (false = true) by simp)]
    unfold extB baseB
    rw [mk_list]
    unfold stem
    by_cases he : Pa.ext s.data.toList = []
    · rw [if_pos he, if_pos he]
    rw [if_neg he, if_neg he]
    rcases ext_tells s.data.toList with ⟨h, _⟩ | ⟨p, d, ht, hx, hd, _⟩
    · exact absurd h he
    have hb := base_tail s.data.toList (by rw [ht]; simp)
    have hle := base_le s.data.toList
    rw [size_len] at hle
    unfold strings_LastIndex.f
    rw [mk_size, if_pos (by omega)]
    simp only [Option.bind_some]
    rw [hx, hb, ht, lastIndex_at p d 46 hd, if_pos (by omega), if_pos (by simp; omega)]
    congr 1
    apply bytes_ext
    rw [data_ext]
    simp

theorem fae_tells (s : ByteArray) (hs : s.size ≤ 140737488351232) : ∃ n, fae 2 s = some (n, extB s) := by
  unfold fae
  rw [if_pos (by omega)]
  unfold PLib5.paths_extractFilename.f strings_LastIndex.f
  rw [if_pos (by omega)]
  simp only [Option.bind_some, j0_tells s hs]
  repeat' split
  all_goals exact ⟨_, rfl⟩

theorem tail_of (a t : List UInt8) (ha : a = [] ∨ ∃ b, a = b ++ [47]) (ht : (47 : UInt8) ∉ t) : tailL (a ++ t) = t := by
  rw [tail_drop]
  rcases Pa.lastIndexByte_spec (a ++ t) 47 with ⟨e, hn⟩ | ⟨i, e, hi, hn⟩
  · rcases ha with rfl | ⟨b, rfl⟩
    · rw [e]; simp
    · exact absurd (show (b ++ [47] ++ t)[b.length]? = some 47 by simp) (hn b.length)
  · have h1 : i < a.length := by
      rcases Nat.lt_or_ge i a.length with g | g
      · exact g
      · rw [List.getElem?_append_right g] at hi
        exact absurd (List.mem_of_getElem? hi) ht
    rcases ha with rfl | ⟨b, rfl⟩
    · simp at h1
    · have h2 : ¬ i < b.length := fun g => hn b.length g (by simp)
      have h3 : i = b.length := by simp at h1; omega
      rw [e, h3]
      have : ((b.length : Int) + 1).toNat = (b ++ [47]).length := by simp
      rw [this, List.drop_left]

theorem stem_of (l p d : List UInt8) (ht : tailL l = p ++ 46 :: d) (hd : (46 : UInt8) ∉ d) : stem l = p ∧ Pa.ext l = 46 :: d ∧ Pa.base l = p ++ 46 :: d := by
  have hb := base_tail l (by rw [ht]; simp)
  rcases ext_tells l with ⟨_, h⟩ | ⟨p', d', ht', hx, hd', _⟩
  · exact absurd (by rw [ht]; simp) h
  · have e1 := lastIndex_at p d 46 hd
    have e2 := lastIndex_at p' d' 46 hd'
    rw [← ht] at e1
    rw [← ht', e1] at e2
    have e3 : p ++ 46 :: d = p' ++ 46 :: d' := by rw [← ht, ← ht']
    obtain ⟨rfl, e4⟩ := List.append_inj e3 (by omega)
    have e5 : d = d' := (List.cons.inj e4).2
    subst e5
    refine ⟨?_, hx, by rw [hb, ht]⟩
    unfold stem
    rw [if_neg (by rw [hx]; simp), hx, hb, ht]
    simp

theorem last_not (l : List UInt8) (ht : tailL l ≠ []) (h : l[l.length - 1]? = some 47) : False := by
  have hn := tail_no l
  rw [tail_drop] at ht hn
  generalize (Pa.lastIndexByte l 47 + 1).toNat = m at ht hn
  have hm : m < l.length := by
    rcases Nat.lt_or_ge m l.length with g | g
    · exact g
    · exact absurd (List.drop_eq_nil_of_le g) ht
  refine hn (List.mem_of_getElem? (i := l.length - 1 - m) ?_)
  rw [List.getElem?_drop, show m + (l.length - 1 - m) = l.length - 1 by omega]
  exact h

theorem slash_not (l : List UInt8) (ht : tailL l ≠ []) (h0 : l ≠ []) : lastIndex l [47] ≠ (l.length : Int) - 1 := by
  intro h
  have hp : 0 < l.length := List.length_pos_iff.2 h0
  unfold lastIndex at h
  rw [if_pos (by simp; omega)] at h
  rcases lastOcc_spec l [47] (l.length - [47].length + 1) with ⟨e, hn⟩ | ⟨i, hi, e, hc, hn⟩
  · omega
  · have hi2 : i = l.length - 1 := by omega
    subst hi2
    exact last_not l ht ((occ_one _ _ _).1 hc)

theorem fae_name (s : ByteArray) (hs : s.size ≤ 140737488351232) (p d : List UInt8) (ht : tailL s.data.toList = p ++ 46 :: d) (hd : (46 : UInt8) ∉ d) (h0 : p ≠ []) (h1 : p ≠ [46]) (h47 : (47 : UInt8) ∉ p) :
    fae 2 s = some (⟨p.toArray⟩, ⟨(46 :: d).toArray⟩) := by
  obtain ⟨hst, hx, hb⟩ := stem_of _ p d ht hd
  have hl0 : s.data.toList ≠ [] := by intro e; rw [e] at ht; rw [tail_drop] at ht; simp at ht
  have hsz : 0 < s.size := by rw [← size_len]; exact List.length_pos_iff.2 hl0
  have hli := slash_not s.data.toList (by rw [ht]; simp) hl0
  rw [size_len] at hli
  have hbl : (baseB s).toList = p ++ 46 :: d := by unfold baseB; rw [mk_list, hb]
  have b0 : ¬ (baseB s).toList = ([] : List UInt8) := by rw [hbl]; simp
  have b1 : ¬ (baseB s).toList = ([46] : List UInt8) := by
    rw [hbl]; intro e
    cases p with
    | nil => exact h0 rfl
    | cons x r => simp at e
  have b2 : ¬ (baseB s).toList = ([46, 46] : List UInt8) := by
    rw [hbl]; intro e
    cases p with
    | nil => exact h0 rfl
    | cons x r =>
      cases r with
      | nil => simp at e; exact h1 (by rw [e.1])
      | cons y r' =>
        have := congrArg List.length e
        simp at this
  have b3 : ((baseB s).toList == (⟨#[47]⟩ : ByteArray).toList) = false := by
    rw [hbl, list_eq (⟨#[47]⟩ : ByteArray)]
    apply beq_eq_false_iff_ne.2
    intro e
    cases p with
    | nil => exact h0 rfl
    | cons x r => have := (List.cons.inj e).1; exact h47 (by rw [this]; simp)
  unfold fae
  rw [if_pos (by omega)]
  unfold PLib5.paths_extractFilename.f
  have hf : strings_LastIndex.f s ⟨#[47]⟩ = some (lastIndex s.data.toList [47]) := by
    unfold strings_LastIndex.f
    rw [if_pos (by omega)]
  rw [hf]
  simp only [Option.bind_some]
  rw [wrap_id _ (by omega), if_neg hli, if_neg b0, if_neg b1, if_neg b2, b3, j0_tells s hs, if_neg (by simp)]
  simp only [Option.bind_some]
  rw [hst]
  unfold extB
  rw [hx]

theorem fae_tail (s : ByteArray) (hs : s.size ≤ 140737488351232) (ht : tailL s.data.toList ≠ []) :
    fae 2 s = some (if tailL s.data.toList = [46] ∨ tailL s.data.toList = [46, 46] then ⟨#[]⟩ else ⟨(stem s.data.toList).toArray⟩, extB s) := by
  have hb := base_tail _ ht
  have hl0 : s.data.toList ≠ [] := by intro e; rw [e] at ht; exact ht (by rw [tail_drop]; simp)
  have hsz : 0 < s.size := by rw [← size_len]; exact List.length_pos_iff.2 hl0
  have hli := slash_not s.data.toList ht hl0
  rw [size_len] at hli
  have hbl : (baseB s).toList = tailL s.data.toList := by unfold baseB; rw [mk_list, hb]
  have b3 : ((baseB s).toList == (⟨#[47]⟩ : ByteArray).toList) = false := by
    rw [hbl, list_eq (⟨#[47]⟩ : ByteArray)]
    apply beq_eq_false_iff_ne.2
    intro e
    exact tail_no s.data.toList (by rw [e]; simp)
  have hf : strings_LastIndex.f s ⟨#[47]⟩ = some (lastIndex s.data.toList [47]) := by
    unfold strings_LastIndex.f
    rw [if_pos (by omega)]
  unfold fae
  rw [if_pos (by omega)]
  unfold PLib5.paths_extractFilename.f
  rw [hf]
  simp only [Option.bind_some]
  rw [wrap_id _ (by omega), if_neg hli, hbl, if_neg ht, ← hbl, b3, hbl]
  simp only [j0_tells s hs]
  by_cases c1 : tailL s.data.toList = [46]
  · rw [if_pos c1, if_pos (Or.inl c1)]; rfl
  by_cases c2 : tailL s.data.toList = [46, 46]
  · rw [if_neg c1, if_pos c2, if_pos (Or.inr c2)]; rfl
  have c3 : ¬ (tailL s.data.toList = [46] ∨ tailL s.data.toList = [46, 46]) := by
    rintro (h | h)
    · exact c1 h
    · exact c2 h
  rw [if_neg c1, if_neg c2, if_neg c3]
  rfl

theorem tail_nil (l : List UInt8) (h : tailL l = []) : l = [] ∨ ∃ p, l = p ++ [47] := by
  rcases List.eq_nil_or_concat l with e | ⟨p, x, e⟩
  · exact .inl e
  · right
    rw [List.concat_eq_append] at e
    subst e
    refine ⟨p, ?_⟩
    by_cases hx : x = 47
    · rw [hx]
    · exfalso
      rw [tail_drop] at h
      have hm : (p ++ [x]).length ≤ (Pa.lastIndexByte (p ++ [x]) 47 + 1).toNat := List.drop_eq_nil_iff.1 h
      rcases Pa.lastIndexByte_spec (p ++ [x]) 47 with ⟨e, hn⟩ | ⟨i, e, hi, hn⟩
      · rw [e] at hm; simp at hm
      · rw [e] at hm
        simp at hm
        have hlt : i < (p ++ [x]).length := by
          rcases Nat.lt_or_ge i (p ++ [x]).length with g | g
          · exact g
          · rw [List.getElem?_eq_none g] at hi; cases hi
        simp at hlt
        have : i = p.length := by omega
        subst this
        rw [List.getElem?_append_right (Nat.le_refl _)] at hi
        simp at hi
        exact hx hi

theorem fae_none (s : ByteArray) (hs : s.size ≤ 140737488351232) (ht : tailL s.data.toList = []) : fae 2 s = some (⟨#[]⟩, extB s) := by
  have hli : lastIndex s.data.toList [47] = (s.size : Int) - 1 := by
    rw [← size_len]
    rcases tail_nil _ ht with e | ⟨p, e⟩
    · rw [e]; rfl
    · rw [e, lastIndex_at p [] 47 (by simp)]; simp
  have hf : strings_LastIndex.f s ⟨#[47]⟩ = some (lastIndex s.data.toList [47]) := by
    unfold strings_LastIndex.f
    rw [if_pos (by omega)]
  unfold fae
  rw [if_pos (by omega)]
  unfold PLib5.paths_extractFilename.f
  rw [hf]
  simp only [Option.bind_some]
  rw [wrap_id _ (by omega), if_pos hli, j0_tells s hs, if_pos rfl]
  rfl
end Go.Proofs.YtgcadmofjblaeaaDoor.Ext0
