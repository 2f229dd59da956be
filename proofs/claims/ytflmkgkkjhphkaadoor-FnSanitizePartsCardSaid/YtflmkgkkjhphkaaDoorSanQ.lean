/- Sanitized texts that are joined out of pieces, in plain words. No program. -/
import Derived.Test.YtflmkgkkjhphkaaDoorSanP
set_option linter.unusedVariables false
namespace Go.Proofs.YtflmkgkkjhphkaaDoor.San0
open Go Go.Lib Go.Proofs.YtflmkgkkjhphkaaDoor.Dec0 Go.Proofs.YtflmkgkkjhphkaaDoor.Txt0
def st0 (c : Int) : Bool := ldm c || sign c
theorem stay_st0 {c : Int} (h : c ≠ 37) (r : List Int) : stay c r = st0 c := by unfold stay st0; rw [beq_eq_false_iff_ne.2 h]; simp
/-- How things stand behind a text: the last rune that stays, whether white space stood behind it. -/
def stf : List Int → Option Int → Bool → Option Int × Bool
  | [], l, s => (l, s)
  | c :: r, l, s => if st0 c = true then stf r (some c) false else stf r l (s || isSpaceZ c)
theorem san_split : ∀ (A R : List Int) (l : Option Int) (s : Bool), (∀ c ∈ A, c ≠ 37) → san (A ++ R) l s = san A l s ++ san R (stf A l s).1 (stf A l s).2
  | [], R, l, s, _ => rfl
  | c :: A, R, l, s, h => by
    have h37 := h c List.mem_cons_self
    have ih := fun l s => san_split A R l s (fun c hc => h c (List.mem_cons_of_mem _ hc))
    rw [List.cons_append, san, san, stf, stay_st0 h37, stay_st0 h37]
    split
    · split
      · rw [ih]; rfl
      · rw [ih]; rfl
    · exact ih _ _
theorem stf_app : ∀ (A R : List Int) (l : Option Int) (s : Bool), stf (A ++ R) l s = stf R (stf A l s).1 (stf A l s).2
  | [], R, l, s => rfl
  | c :: A, R, l, s => by
    rw [List.cons_append, stf, stf]
    split
    · exact stf_app A R _ _
    · exact stf_app A R _ _
def bi (l : T) : List Int := l.map fun c => (c.toNat : Int)
theorem bi_app (a b : T) : bi (a ++ b) = bi a ++ bi b := List.map_append ..
theorem rs_bi : ∀ {l : T}, (∀ c ∈ l, c.toNat < 128) → rs l = bi l
  | [], _ => rs_nil
  | c :: l, h => by
    have hc := h c List.mem_cons_self
    rw [rs_cons (by simp), rn_ascii hc, wd_ascii hc, List.drop_succ_cons, List.drop_zero, rs_bi (fun c hc => h c (List.mem_cons_of_mem _ hc))]
    rfl
theorem ens_bi : ∀ {l : T}, (∀ c ∈ l, c.toNat < 128) → ens (bi l) = l
  | [], _ => rfl
  | c :: l, h => by
    have hc := h c List.mem_cons_self
    have e : en ((c.toNat : Nat) : Int) = [c] := by
      rcases en_cases (z := ((c.toNat : Nat) : Int)) (by unfold isR; omega) with ⟨_, e⟩ | ⟨a, _⟩ | ⟨a, _⟩ | ⟨a, _⟩
      · rw [e]
        simp
      all_goals omega
    show en ((c.toNat : Nat) : Int) ++ ens (bi l) = c :: l
    rw [e, ens_bi (fun c hc => h c (List.mem_cons_of_mem _ hc))]
    rfl
/-- A text of ASCII without %: sanitized. -/
theorem sanB_bi {s t : ByteArray} (hs : ∀ c ∈ s.data.toList, c.toNat < 128) (ht : ∀ c ∈ t.data.toList, c.toNat < 128) (h : san (bi s.data.toList) none false = bi t.data.toList) : sanB s = t := by
  have e : runesBytes (rs s.data.toList) = s := by
    rw [data_inj, ens_list, rs_bi hs, ens_bi hs]
  rw [sanB_eq e, rs_bi hs, h, data_inj, ens_list, ens_bi ht]
/-- s is sanitized to t so far; l: the last one that stays. -/
structure So (s t : T) (l : Option Int) : Prop where
  asc : ∀ c ∈ s, c.toNat < 128 ∧ c ≠ 37
  asc' : ∀ c ∈ t, c.toNat < 128
  out : san (bi s) none false = bi t
  st : stf (bi s) none false = (l, false)
  last : l ≠ some 45
theorem So.nil : So [] [] none := ⟨fun c h => (by cases h), fun c h => (by cases h), rfl, rfl, by simp⟩
theorem bi_37 {s : T} (h : ∀ c ∈ s, c.toNat < 128 ∧ c ≠ 37) : ∀ c ∈ bi s, c ≠ 37 := by
  intro c hc
  unfold bi at hc
  obtain ⟨b, hb, rfl⟩ := List.mem_map.1 hc
  have := (h b hb).2
  intro e
  exact this (UInt8.toNat_inj.1 (by have : (37 : UInt8).toNat = 37 := rfl; omega))
/-- A piece more. -/
theorem So.more {s t x y : T} {l l' : Option Int} (h : So s t l) (hx : ∀ c ∈ x, c.toNat < 128 ∧ c ≠ 37) (hy : ∀ c ∈ y, c.toNat < 128) (ho : san (bi x) l false = bi y) (hst : stf (bi x) l false = (l', false)) (hl : l' ≠ some 45) : So (s ++ x) (t ++ y) l' := by
  refine ⟨fun c hc => ?_, fun c hc => ?_, ?_, ?_, hl⟩
  · rcases List.mem_append.1 hc with h1 | h1
    · exact h.asc c h1
    · exact hx c h1
  · rcases List.mem_append.1 hc with h1 | h1
    · exact h.asc' c h1
    · exact hy c h1
  · rw [bi_app, san_split _ _ _ _ (bi_37 h.asc), h.out, h.st, ho, bi_app]
  · rw [bi_app, stf_app, h.st, hst]
theorem So.res {s t : ByteArray} {l : Option Int} (h : So s.data.toList t.data.toList l) : sanB s = t := sanB_bi (fun c hc => (h.asc c hc).1) h.asc' h.out
/-- What a word is made of. -/
def wordB (c : UInt8) : Bool := isLet c || decide (48 ≤ c.toNat) && decide (c.toNat ≤ 57) || c.toNat == 46 || c.toNat == 47 || c.toNat == 95 || c.toNat == 126
theorem wordB_facts {c : UInt8} (h : wordB c = true) : c.toNat < 128 ∧ c ≠ 37 ∧ st0 (c.toNat : Int) = true ∧ (c.toNat : Int) ≠ 45 := by
  unfold wordB isLet at h
  simp only [Bool.or_eq_true, Bool.and_eq_true, decide_eq_true_eq, beq_iff_eq] at h
  have hn : ∀ k : UInt8, c = k → c.toNat = k.toNat := fun k e => by rw [e]
  have hlt : c.toNat < 128 := by omega
  refine ⟨hlt, ?_, ?_, by omega⟩
  · intro e
    have := hn 37 e
    have e37 : (37 : UInt8).toNat = 37 := rfl
    omega
  · have hl := ldm_ascii ⟨c.toNat, hlt⟩
    dsimp only at hl
    unfold st0 sign
    rw [hl]
    simp
    omega
theorem san_word : ∀ {w : T} (l : Option Int), (∀ c ∈ w, st0 (c.toNat : Int) = true ∧ c ≠ 37 ∧ c.toNat < 128) → san (bi w) l false = bi w
  | [], _, _ => rfl
  | c :: w, l, h => by
    have hc := h c List.mem_cons_self
    have h37 : ((c.toNat : Nat) : Int) ≠ 37 := fun e => hc.2.1 (UInt8.toNat_inj.1 (by have : (37 : UInt8).toNat = 37 := rfl; omega))
    have hs : stay (c.toNat : Int) (bi w) = true := by rw [stay_st0 h37]; exact hc.1
    show san ((c.toNat : Int) :: bi w) l false = (c.toNat : Int) :: bi w
    rw [san, if_pos hs, if_neg (by rw [stay_space hs]; simp), san_word _ (fun c hc => h c (List.mem_cons_of_mem _ hc))]
theorem stf_word : ∀ {w : T} (l : Option Int) (s : Bool), w ≠ [] → (∀ c ∈ w, st0 (c.toNat : Int) = true) → ∃ c ∈ w, stf (bi w) l s = (some (c.toNat : Int), false)
  | [], _, _, h, _ => absurd rfl h
  | [c], l, s, _, h => ⟨c, List.mem_cons_self, by show stf [(c.toNat : Int)] l s = _; rw [stf, if_pos (h c List.mem_cons_self)]; rfl⟩
  | c :: d :: w, l, s, _, h => by
    obtain ⟨e, he, h1⟩ := stf_word (w := d :: w) (some (c.toNat : Int)) false (by simp) (fun c hc => h c (List.mem_cons_of_mem _ hc))
    refine ⟨e, List.mem_cons_of_mem _ he, ?_⟩
    show stf ((c.toNat : Int) :: bi (d :: w)) l s = _
    rw [stf, if_pos (h c List.mem_cons_self)]
    exact h1
theorem stf_blank (l : Option Int) : ∀ k, stf (bi (List.replicate (k + 1) 32)) l false = (l, true) ∧ stf (bi (List.replicate k 32)) l true = (l, true)
  | 0 => ⟨by
      show stf [32] l false = _
      rw [stf, if_neg (by decide +kernel)]
      rfl, rfl⟩
  | k + 1 => by
    have h := (stf_blank l k).2
    have e : ∀ s, stf (bi (List.replicate (k + 1) 32)) l s = stf (bi (List.replicate k 32)) l true := by
      intro s
      show stf (32 :: bi (List.replicate k 32)) l s = _
      rw [stf, if_neg (by decide +kernel)]
      congr 1
      cases s
      · decide
      · rfl
    have h2 : stf (bi (List.replicate (k + 1) 32)) l true = (l, true) := by rw [e, h]
    refine ⟨?_, h2⟩
    show stf (32 :: bi (List.replicate (k + 1) 32)) l false = _
    rw [stf, if_neg (by decide +kernel), show (false || isSpaceZ 32) = true by decide, h2]
theorem san_blank (l : Option Int) : ∀ k s, san (bi (List.replicate k 32)) l s = []
  | 0, s => rfl
  | k + 1, s => by
    show san (32 :: bi (List.replicate k 32)) l s = _
    rw [san, if_neg (by rw [stay_st0 (by decide)]; decide +kernel)]
    exact san_blank l k _
/-- Blanks and a word. -/
theorem So.word {s t w : T} {l : Option Int} (h : So s t l) (hw : w.all wordB = true) (hne : w ≠ []) (k : Nat) (hk : 0 < k → l.isSome = true) : ∃ l', So (s ++ (List.replicate k 32 ++ w)) (t ++ ((if k = 0 then [] else [45]) ++ w)) l' ∧ l'.isSome = true := by
  have hf := fun c (hc : c ∈ w) => wordB_facts (List.all_eq_true.1 hw c hc)
  obtain ⟨c, hc, hst⟩ := stf_word (w := w) l (decide (0 < k)) hne (fun c hc => (hf c hc).2.2.1)
  have hb : ∀ c ∈ List.replicate k (32 : UInt8), c.toNat < 128 ∧ c ≠ 37 := by
    intro c hc
    obtain ⟨_, rfl⟩ := List.mem_replicate.1 hc
    decide
  refine ⟨some (c.toNat : Int), h.more (fun c hc => ?_) (fun c hc => ?_) ?_ ?_ ?_, rfl⟩
  · rcases List.mem_append.1 hc with h1 | h1
    · exact hb c h1
    · exact ⟨(hf c h1).1, (hf c h1).2.1⟩
  · rcases List.mem_append.1 hc with h1 | h1
    · split at h1
      · cases h1
      · obtain rfl := List.mem_singleton.1 h1; decide
    · exact (hf c h1).1
  · rw [bi_app, san_split _ _ _ _ (bi_37 hb), san_blank, List.nil_append, bi_app]
    cases k with
    | zero =>
      rw [if_pos rfl]
      show san (bi w) l false = _
      rw [san_word _ (fun c hc => ⟨(hf c hc).2.2.1, (hf c hc).2.1, (hf c hc).1⟩)]
      rfl
    | succ k =>
      rw [if_neg (by omega), (stf_blank l k).1]
      cases w with
      | nil => exact absurd rfl hne
      | cons d w =>
        have hd := hf d List.mem_cons_self
        have h37 : ((d.toNat : Nat) : Int) ≠ 37 := fun e => hd.2.1 (UInt8.toNat_inj.1 (by have : (37 : UInt8).toNat = 37 := rfl; omega))
        have hs : stay (d.toNat : Int) (bi w) = true := by rw [stay_st0 h37]; exact hd.2.2.1
        have h45 : ((d.toNat : Int) != 45) = true := by simpa using hd.2.2.2
        show san ((d.toNat : Int) :: bi w) l true = 45 :: (d.toNat : Int) :: bi w
        have hl : (l != some 45) = true := by have := h.last; simp [bne]; exact this
        rw [san, if_pos hs, if_pos (by rw [hk (by omega), h45, hl]; rfl), san_word _ (fun c hc => ⟨(hf c (List.mem_cons_of_mem _ hc)).2.2.1, (hf c (List.mem_cons_of_mem _ hc)).2.1, (hf c (List.mem_cons_of_mem _ hc)).1⟩)]
  · rw [bi_app, stf_app]
    cases k with
    | zero => exact (by simpa using hst : stf (bi w) l false = _)
    | succ k => rw [(stf_blank l k).1]; simpa using hst
  · have := (hf c hc).2.2.2
    simpa using this
/-- A word of letters, and a sign that is dropped. -/
theorem So.drop {s t w : T} {l : Option Int} (h : So s t l) (hw : w.all wordB = true) (hne : w ≠ []) (d : UInt8) (hd : d.toNat < 128 ∧ d ≠ 37) (hs : st0 (d.toNat : Int) = false) (hsp : isSpaceZ (d.toNat : Int) = false) : ∃ l', So (s ++ (w ++ [d])) (t ++ w) l' := by
  have hf := fun c (hc : c ∈ w) => wordB_facts (List.all_eq_true.1 hw c hc)
  obtain ⟨c, hc, hst⟩ := stf_word (w := w) l false hne (fun c hc => (hf c hc).2.2.1)
  have h37 : ((d.toNat : Nat) : Int) ≠ 37 := fun e => hd.2 (UInt8.toNat_inj.1 (by have : (37 : UInt8).toNat = 37 := rfl; omega))
  refine ⟨some (c.toNat : Int), h.more (fun c hc => ?_) (fun c hc => (hf c hc).1) ?_ ?_ ?_⟩
  · rcases List.mem_append.1 hc with h1 | h1
    · exact ⟨(hf c h1).1, (hf c h1).2.1⟩
    · obtain rfl := List.mem_singleton.1 h1; exact hd
  · rw [bi_app, san_split _ _ _ _ (bi_37 (fun c hc => ⟨(hf c hc).1, (hf c hc).2.1⟩)), san_word _ (fun c hc => ⟨(hf c hc).2.2.1, (hf c hc).2.1, (hf c hc).1⟩)]
    show bi w ++ san [(d.toNat : Int)] _ _ = bi w
    rw [san, if_neg (by rw [stay_st0 h37, hs]; simp), san, List.append_nil]
  · rw [bi_app, stf_app, hst]
    show stf [(d.toNat : Int)] _ _ = _
    rw [stf, if_neg (by rw [hs]; simp), hsp]
    rfl
  · have := (hf c hc).2.2.2
    simpa using this
end Go.Proofs.YtflmkgkkjhphkaaDoor.San0
namespace Go.Proofs.YtflmkgkkjhphkaaDoor.San0
open Go Go.Lib Go.Proofs.YtflmkgkkjhphkaaDoor.Dec0 Go.Proofs.YtflmkgkkjhphkaaDoor.Txt0
/-! ### a path of words with blanks in them -/
def partB (c : UInt8) : Bool := isLet c || decide (48 ≤ c.toNat) && decide (c.toNat ≤ 57) || decide (c.toNat ≤ 32) || c.toNat == 95 || c.toNat == 46
theorem part_word {c : UInt8} (h : partB c = true) (h2 : 32 < c.toNat) : wordB c = true := by
  unfold partB at h
  unfold wordB
  simp only [Bool.or_eq_true, Bool.and_eq_true, decide_eq_true_eq, beq_iff_eq] at h ⊢
  rcases h with (((h | h) | h) | h) | h
  · exact .inl (.inl (.inl (.inl (.inl h))))
  · exact .inl (.inl (.inl (.inl (.inr h))))
  · omega
  · exact .inl (.inr h)
  · exact .inl (.inl (.inl (.inr h)))
def ob (l : List Int) : T := l.map fun z => UInt8.ofNat z.toNat
theorem bi_ob : ∀ {l : List Int}, (∀ z ∈ l, 0 ≤ z ∧ z < 128) → bi (ob l) = l ∧ ∀ c ∈ ob l, c.toNat < 128
  | [], _ => ⟨rfl, fun c h => by cases h⟩
  | z :: l, h => by
    obtain ⟨h1, h2⟩ := bi_ob (fun z hz => h z (List.mem_cons_of_mem _ hz))
    have hz := h z List.mem_cons_self
    have e : (UInt8.ofNat z.toNat).toNat = z.toNat := toNat_of (by omega)
    refine ⟨?_, fun c hc => ?_⟩
    · show ((UInt8.ofNat z.toNat).toNat : Int) :: bi (ob l) = z :: l
      rw [h1, e]
      congr 1
      omega
    · rcases List.mem_cons.1 hc with rfl | hc
      · rw [e]; omega
      · exact h2 c hc
theorem bi_range {w : T} (h : ∀ c ∈ w, c.toNat < 128) : ∀ z ∈ bi w, 0 ≤ z ∧ z < 128 := by
  intro z hz
  unfold bi at hz
  obtain ⟨c, hc, rfl⟩ := List.mem_map.1 hz
  have := h c hc
  omega
theorem sanB_ob {w : ByteArray} (h : ∀ c ∈ w.data.toList, c.toNat < 128) : bi (sanB w).data.toList = san (bi w.data.toList) none false ∧ ∀ c ∈ (sanB w).data.toList, c.toNat < 128 := by
  have hr : ∀ z ∈ san (bi w.data.toList) none false, 0 ≤ z ∧ z < 128 := by
    intro z hz
    rcases san_mem _ _ _ z hz with rfl | ⟨hz, _⟩
    · omega
    · exact bi_range h z hz
  obtain ⟨h1, h2⟩ := bi_ob hr
  have e : sanB w = ⟨(ob (san (bi w.data.toList) none false)).toArray⟩ := sanB_bi h (by simpa using h2) (by simpa using h1.symm)
  rw [e]
  exact ⟨by simpa using h1, by simpa using h2⟩
theorem san_any {c : UInt8} {w : T} (l : Option Int) (h37 : c ≠ 37) (hs : st0 (c.toNat : Int) = true) : san (bi (c :: w)) l false = san (bi (c :: w)) none false := by
  have h37' : ((c.toNat : Nat) : Int) ≠ 37 := fun e => h37 (UInt8.toNat_inj.1 (by have : (37 : UInt8).toNat = 37 := rfl; omega))
  have h : stay (c.toNat : Int) (bi w) = true := by rw [stay_st0 h37']; exact hs
  show san ((c.toNat : Int) :: bi w) l false = san ((c.toNat : Int) :: bi w) none false
  rw [san, san, if_pos h, if_pos h, if_neg (by rw [stay_space h]; simp), if_neg (by rw [stay_space h]; simp)]
theorem So.slash {s t : T} {l : Option Int} (h : So s t l) : So (s ++ [47]) (t ++ [47]) (some 47) := by
  have hs : st0 47 = true := by decide +kernel
  have h1 : san [47] l false = [47] := by
    have := san_word (w := [47]) l (fun c hc => by obtain rfl := List.mem_singleton.1 hc; exact ⟨hs, by decide, by decide⟩)
    exact this
  refine h.more (fun c hc => ?_) (fun c hc => ?_) h1 ?_ (by decide)
  · obtain rfl := List.mem_singleton.1 hc; decide
  · obtain rfl := List.mem_singleton.1 hc; decide
  · show stf [47] l false = _
    rw [stf, if_pos hs]
    rfl
/-- A word with blanks in it, but not at its ends. -/
theorem So.part {s t : T} {w : ByteArray} {l : Option Int} (h : So s t l) (ha : w.data.toList.all isAsc = true) (hp : w.data.toList.all partB = true) (h37 : hasT [37] w.data.toList = false) (hf : ∀ c r, w.data.toList = c :: r → 32 < c.toNat) (hl : ∀ c r, w.data.toList = r ++ [c] → 32 < c.toNat) (hne : w.data.toList ≠ []) :
    ∃ l', So (s ++ w.data.toList) (t ++ (sanB w).data.toList) l' := by
  have hasc : ∀ c ∈ w.data.toList, c.toNat < 128 := fun c hc => by
    have := List.all_eq_true.1 ha c hc
    unfold isAsc at this
    simp only [Bool.and_eq_true, decide_eq_true_eq] at this
    omega
  rw [hasT_one, List.any_eq_false] at h37
  have hno : ∀ c ∈ w.data.toList, c.toNat < 128 ∧ c ≠ 37 := fun c hc => ⟨hasc c hc, fun e => h37 c hc (by simp [e])⟩
  have hst : ∀ c ∈ w.data.toList, 32 < c.toNat → wordB c = true := fun c hc h2 => part_word (List.all_eq_true.1 hp c hc) h2
  obtain ⟨o1, o2⟩ := sanB_ob hasc
  have hlast : ∃ r c, w.data.toList = r ++ [c] := ⟨_, _, (List.dropLast_concat_getLast hne).symm⟩
  obtain ⟨r, c, hrc⟩ := hlast
  have hcw := wordB_facts (hst c (by rw [hrc]; simp) (hl c r hrc))
  refine ⟨some (c.toNat : Int), h.more hno o2 ?_ ?_ ?_⟩
  · rw [o1]
    cases hw : w.data.toList with
    | nil => exact absurd hw hne
    | cons d r' =>
      have hd : d ∈ w.data.toList := by rw [hw]; exact List.mem_cons_self
      exact san_any l (hno d hd).2 (wordB_facts (hst d hd (hf d r' hw))).2.2.1
  · rw [hrc, bi_app, stf_app]
    show stf [(c.toNat : Int)] _ _ = _
    rw [stf, if_pos hcw.2.2.1]
    rfl
  · have := hcw.2.2.2
    simpa using this
theorem asc_bytes {w : ByteArray} (ha : w.data.toList.all isAsc = true) : runesBytes (rs w.data.toList) = w := by
  have hasc : ∀ c ∈ w.data.toList, c.toNat < 128 := fun c hc => by
    have := List.all_eq_true.1 ha c hc
    unfold isAsc at this
    simp only [Bool.and_eq_true, decide_eq_true_eq] at this
    omega
  rw [data_inj, ens_list, rs_bi hasc, ens_bi hasc]
end Go.Proofs.YtflmkgkkjhphkaaDoor.San0
