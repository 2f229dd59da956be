/- FnSameCleaned, the plain law: a path is the same file's with slashes around, with an element . or with an element that is left again; for all parts, places and ways. -/
import Derived.Test.YtckfbpgjegbmlaaPFnSameCleanedx2
import Derived.Test.YtckfbpgjegbmlaaSameI0FnSameCleaned
import Derived.Test.YtckfbpgjegbmlaaHas0FnSameCleaned
import Derived.Test.YtckfbpgjegbmlaaFits0FnSameCleaned
import Derived.Test.YtckfbpgjegbmlaaClean0
set_option linter.unusedVariables false
namespace Go.Proofs.Ytckfbpgjegbmlaa.Pure
open Go.RowKit Go.Proofs.Ytckfbpgjegbmlaa.PFnSameCleaned Go.Proofs.YtckfbpgjegbmlaaW.PrintWords Go.Proofs.YtckfbpgjegbmlaaW.PrintLast Go.Proofs.Ytckfbpgjegbmlaa.Lib0 Go.Proofs.Ytckfbpgjegbmlaa Go.Proofs.Ytckfbpgjegbmlaa.Trim0 Go.Proofs.Ytckfbpgjegbmlaa.Flds0 Go.Proofs.Ytckfbpgjegbmlaa.Clean0 Go.Proofs.Ytckfbpgjegbmlaa.SameI0FnSameCleaned Go.Proofs.Ytckfbpgjegbmlaa.Has0FnSameCleaned Go.Proofs.Ytckfbpgjegbmlaa.Fits0FnSameCleaned Go.Lib.Pa

/-- an element as it may stand among the parts. -/
structure Good (e : List UInt8) : Prop where
  ne : e ≠ []
  dot : e ≠ [46]
  dots : e ≠ [46, 46]
  free : 47 ∉ e

/-- neither end is a slash. -/
structure Ends (l : List UInt8) : Prop where
  first : ∃ c t, l = c :: t ∧ c ≠ 47
  last : ∃ t c, l = t ++ [c] ∧ c ≠ 47

theorem Ends.free {e : List UInt8} (h0 : e ≠ []) (h : 47 ∉ e) : Ends e := by
  refine ⟨?_, ?_⟩
  · cases e with
    | nil => exact absurd rfl h0
    | cons c t => exact ⟨c, t, rfl, fun q => h (by rw [q]; exact List.mem_cons_self)⟩
  · refine ⟨e.dropLast, e.getLast h0, (List.dropLast_concat_getLast h0).symm, fun q => h (by rw [← q]; exact List.getLast_mem h0)⟩
theorem Ends.append {a b : List UInt8} (m : List UInt8) (ha : ∃ c t, a = c :: t ∧ c ≠ 47) (hb : Ends b) : Ends (a ++ m ++ b) := by
  obtain ⟨c, t, rfl, hc⟩ := ha
  obtain ⟨t2, d, e2, hd⟩ := hb.last
  exact ⟨⟨c, t ++ m ++ b, by simp, hc⟩, ⟨c :: t ++ m ++ t2, d, by rw [e2]; simp, hd⟩⟩
theorem trim_ends {l : List UInt8} (h : Ends l) : trimOf l = l := by
  obtain ⟨c, t, e, hc⟩ := h.first
  obtain ⟨t2, d, e2, hd⟩ := h.last
  unfold trimOf
  have : dropLead l = l := by rw [e]; exact dropLead_other _ _ hc
  rw [this]
  conv => lhs; rw [e2]
  rw [stripEnd_other _ _ hd, ← e2]
theorem trim_lead {l : List UInt8} (h : Ends l) : trimOf (47 :: l) = l := by
  have := trim_ends h
  unfold trimOf at this ⊢
  rw [dropLead_slash]; exact this
theorem trim_trail {l : List UInt8} (h : Ends l) : trimOf (l ++ [47]) = l := by
  obtain ⟨c, t, e, hc⟩ := h.first
  have h2 := trim_ends h
  unfold trimOf at h2 ⊢
  have e1 : dropLead l = l := by rw [e]; exact dropLead_other _ _ hc
  have e2 : dropLead (l ++ [47]) = l ++ [47] := by rw [e]; exact dropLead_other _ _ hc
  rw [e1] at h2
  rw [e2, stripEnd_slash]; exact h2

theorem Good.step {e : List UInt8} (h : Good e) (st : List (List UInt8)) : cleanStep false st e = e :: st := by
  unfold cleanStep
  rw [if_neg (fun x => x.elim h.ne h.dot), if_neg h.dots]
theorem Good.part {e : List UInt8} (h : Good e) : fpart e = [e] := by unfold fpart; rw [if_neg h.ne]

/-- what has been written up to part i (i > 0): its elements come to the parts; the last part is open. -/
structure Upto (D : List (List UInt8)) (i : Nat) (s : List UInt8) : Prop where
  stands : ∃ done, Stands s done (D.getD (i - 1) []) ∧ done.foldl (cleanStep false) [] = (D.take (i - 1)).reverse
  ends : Ends s

theorem kept_of {l : List UInt8} (h : Ends l) : kept l = ((flds l []).foldl (cleanStep false) []).reverse := by
  obtain ⟨c, t, e, hc⟩ := h.first
  unfold kept
  have : Clean0.rooted l = false := by rw [e]; unfold Clean0.rooted; simp [hc]
  rw [this]
theorem rooted_ends {l : List UInt8} (h : Ends l) : Clean0.rooted l = false := by
  obtain ⟨c, t, e, hc⟩ := h.first
  rw [e]; unfold Clean0.rooted; simp [hc]

theorem Upto.clean {D : List (List UInt8)} {i : Nat} {s : List UInt8} (h : Upto D i s) (hi : 0 < i) (hD : i ≤ D.length) (hg : ∀ e ∈ D, Good e) : cleanEls s = asPath false (Clean0.join (D.take i)) := by
  obtain ⟨done, hs, hf⟩ := h.stands
  have hj : i - 1 < D.length := Nat.lt_of_lt_of_le (by omega : i - 1 < i) hD
  have g := hg _ (List.getElem_mem hj)
  rw [getD_in _ _ _ hj] at hs
  rw [clean_is, rooted_ends h.ends, kept_of h.ends, hs.ends, g.part, List.foldl_append, hf]
  simp only [List.foldl_cons, List.foldl_nil, g.step]
  rw [List.reverse_cons, List.reverse_reverse, ← List.take_succ_eq_append_getElem hj, show i - 1 + 1 = i by omega]

def ways : List (List (List UInt8)) := [[[46]], [[120], [46, 46]], [[46], [121], [46], [46, 46]]]
def wayText : List (List UInt8) := [[46, 47], [120, 47, 46, 46, 47], [46, 47, 121, 47, 46, 47, 46, 46, 47]]
theorem way_stands (w : Nat) (hw : w < 3) {s : List UInt8} {done : List (List UInt8)} (h : Stands s done []) : Stands (s ++ wayText.getD w []) (done ++ ways.getD w []) [] := by
  rcases (by omega : w = 0 ∨ w = 1 ∨ w = 2) with rfl | rfl | rfl
  · have h1 := (h.free (f := [46]) (by decide)).slash
    simpa [wayText, ways, fpart] using h1
  · have h1 := (((h.free (f := [120]) (by decide)).slash).free (f := [46, 46]) (by decide)).slash
    simpa [wayText, ways, fpart] using h1
  · have h1 := (((((((h.free (f := [46]) (by decide)).slash).free (f := [121]) (by decide)).slash).free (f := [46]) (by decide)).slash).free (f := [46, 46]) (by decide)).slash
    simpa [wayText, ways, fpart] using h1
theorem way_fold (w : Nat) (hw : w < 3) (st : List (List UInt8)) : (ways.getD w []).foldl (cleanStep false) st = st := by
  rcases (by omega : w = 0 ∨ w = 1 ∨ w = 2) with rfl | rfl | rfl <;> simp [ways, cleanStep]
theorem way_first (w : Nat) (hw : w < 3) : ∃ c t, wayText.getD w [] = c :: t ∧ c ≠ 47 := by
  rcases (by omega : w = 0 ∨ w = 1 ∨ w = 2) with rfl | rfl | rfl
  · exact ⟨46, _, rfl, by decide⟩
  · exact ⟨120, _, rfl, by decide⟩
  · exact ⟨46, _, rfl, by decide⟩

/-- the first part. -/
theorem upto_first {D : List (List UInt8)} (h0 : 0 < D.length) (hg : Good D[0]) : Upto D 1 D[0] := by
  refine ⟨⟨[], ?_, rfl⟩, Ends.free hg.ne hg.free⟩
  have := stands_nil.free (f := D[0]) hg.free
  rw [show (1 : Nat) - 1 = 0 from rfl, getD_in _ _ _ h0]
  simpa using this
theorem upto_first_way {D : List (List UInt8)} (h0 : 0 < D.length) (hg : Good D[0]) (w : Nat) (hw : w < 3) : Upto D 1 (wayText.getD w [] ++ D[0]) := by
  refine ⟨⟨ways.getD w [], ?_, by rw [way_fold w hw]; rfl⟩, ?_⟩
  · have := (way_stands w hw stands_nil).free (f := D[0]) hg.free
    rw [show (1 : Nat) - 1 = 0 from rfl, getD_in _ _ _ h0]
    simpa using this
  · have := Ends.append [] (way_first w hw) (Ends.free hg.ne hg.free)
    simpa using this
/-- the next one. -/
theorem Upto.next {D : List (List UInt8)} {i : Nat} {s : List UInt8} (h : Upto D i s) (hi : 0 < i) (hj : i < D.length) (hg0 : ∀ j (hj : j < D.length), j ≤ i → Good D[j]) : Upto D (i + 1) (s ++ [47] ++ D[i]) ∧ ∀ w, w < 3 → Upto D (i + 1) (s ++ [47] ++ wayText.getD w [] ++ D[i]) := by
  obtain ⟨done, hs, hf⟩ := h.stands
  have hj1 : i - 1 < D.length := by omega
  have g1 := hg0 (i - 1) hj1 (by omega)
  have g := hg0 i hj (Nat.le_refl _)
  rw [getD_in _ _ _ hj1] at hs
  have h1 := hs.slash
  rw [g1.part] at h1
  have f1 : (done ++ [D[i - 1]]).foldl (cleanStep false) [] = (D.take i).reverse := by
    rw [List.foldl_append, hf]
    simp only [List.foldl_cons, List.foldl_nil, g1.step]
    rw [← List.reverse_concat, ← List.take_succ_eq_append_getElem hj1, show i - 1 + 1 = i by omega]
  refine ⟨⟨⟨_, ?_, f1⟩, ?_⟩, fun w hw => ⟨⟨done ++ [D[i - 1]] ++ ways.getD w [], ?_, by rw [List.foldl_append, f1, way_fold w hw]; rfl⟩, ?_⟩⟩
  · have := h1.free (f := D[i]) g.free
    rw [show i + 1 - 1 = i by omega, getD_in _ _ _ hj]
    rw [List.nil_append] at this
    exact this
  · exact Ends.append [47] h.ends.first (Ends.free g.ne g.free)
  · have := (way_stands w hw h1).free (f := D[i]) g.free
    rw [show i + 1 - 1 = i by omega, getD_in _ _ _ hj]
    rw [List.nil_append] at this
    exact this
  · have := Ends.append ([47] ++ wayText.getD w []) h.ends.first (Ends.free g.ne g.free)
    rw [← List.append_assoc] at this
    exact this

theorem join_longer (ps : List (List UInt8)) (x y : List UInt8) : Clean0.join (ps ++ [x ++ y]) = Clean0.join (ps ++ [x]) ++ y := by
  by_cases h : ps = []
  · subst h; simp only [List.nil_append, join_one]
  · rw [join_snoc _ _ h, join_snoc _ _ h]; simp

theorem join_ne (ps : List (List UInt8)) (x : List UInt8) (hx : x ≠ []) : Clean0.join (ps ++ [x]) ≠ [] := by
  by_cases h : ps = []
  · subst h; rw [List.nil_append, join_one]; exact hx
  · rw [join_snoc _ _ h]; simp

theorem sc_final (D : List (List UInt8)) (a b : ByteArray) (h0 : 0 < D.length) (hg : ∀ e ∈ D, Good e) (ha : Upto D D.length a.data.toList) (hb : Upto D D.length b.data.toList) (za : a.size ≤ 200000) (zb : b.size ≤ 200000) (at_ way : Int) (l : List ByteArray) (i : Int) (hi : ¬ i < (l.length : Int)) :
    Ev (fun k => laws_FnSameCleaned.l0 k at_ way a b l (l.length : Int) i) true := by
  have hj : D.length - 1 < D.length := by omega
  have gl := hg _ (List.getElem_mem hj)
  have sp : D = D.take (D.length - 1) ++ [D[D.length - 1]] := by
    rw [← List.take_succ_eq_append_getElem hj, show D.length - 1 + 1 = D.length by omega, List.take_length]
  have jn : Clean0.join D ≠ [] := by rw [sp]; exact join_ne _ _ gl.ne
  have ca : cleanEls a.data.toList = Clean0.join D := by
    rw [ha.clean h0 (Nat.le_refl _) hg, List.take_length]; unfold asPath; simp [jn]
  have cb : cleanEls b.data.toList = Clean0.join D := by
    rw [hb.clean h0 (Nat.le_refl _) hg, List.take_length]; unfold asPath; simp [jn]
  have zs : stSl.size = 1 := rfl
  have z1 : (stSl ++ a).size = 1 + a.size := by rw [app_size, zs]
  have z2 : (b ++ stSl).size = b.size + 1 := by rw [app_size, zs]
  have zx : (⟨#[120]⟩ : ByteArray).size = 1 := rfl
  have z3 : (a ++ (⟨#[120]⟩ : ByteArray)).size = a.size + 1 := by rw [app_size, zx]
  have e1 : cleaned a = Clean0.join D := by unfold cleaned; rw [trim_ends ha.ends, ca]
  have e2 : cleaned b = Clean0.join D := by unfold cleaned; rw [trim_ends hb.ends, cb]
  have e3 : cleaned (stSl ++ a) = Clean0.join D := by
    unfold cleaned; rw [data_app, stSl_list]
    show cleanEls (trimOf (47 :: a.data.toList)) = _
    rw [trim_lead ha.ends, ca]
  have e4 : cleaned (b ++ stSl) = Clean0.join D := by unfold cleaned; rw [data_app, stSl_list, trim_trail hb.ends, cb]
  have e5 : cleaned (a ++ (⟨#[120]⟩ : ByteArray)) = Clean0.join D ++ [120] := by
    obtain ⟨done, hs, hf⟩ := ha.stands
    rw [getD_in _ _ _ hj] at hs
    have h1 := hs.free (f := [120]) (by decide)
    have hx : (⟨#[120]⟩ : ByteArray).data.toList = [120] := rfl
    have en : Ends (a.data.toList ++ [120]) := by
      have := Ends.append [] ha.ends.first (Ends.free (e := [120]) (by decide) (by decide))
      simpa using this
    have gx : Good (D[D.length - 1] ++ [120]) := by
      refine ⟨by simp, fun q => ?_, fun q => ?_, fun q => ?_⟩
      · have := congrArg List.length q
        simp at this
        exact gl.ne this
      · have := congrArg List.getLast? q
        simp at this
      · simp only [List.mem_append, List.mem_singleton] at q
        rcases q with q | q
        · exact gl.free q
        · exact absurd q (by decide)
    unfold cleaned
    rw [data_app, hx, trim_ends en, clean_is, rooted_ends en, kept_of en, h1.ends, gx.part, List.foldl_append, hf]
    simp only [List.foldl_cons, List.foldl_nil, gx.step]
    rw [List.reverse_cons, List.reverse_reverse, join_longer, ← sp]
    unfold asPath
    simp
  have s1 := same_f a b (by omega) (by omega)
  have s2 := same_f (stSl ++ a) (b ++ stSl) (by omega) (by omega)
  have s3 := same_f a (a ++ (⟨#[120]⟩ : ByteArray)) (by omega) (by omega)
  rw [e1, e2, beq_self_eq_true] at s1
  rw [e3, e4, beq_self_eq_true] at s2
  have ne : (Clean0.join D == Clean0.join D ++ [120]) = false := by
    rw [beq_eq_false_iff_ne]
    intro q
    have := congrArg List.length q
    simp at this
  rw [e1, e5, ne] at s3
  have b1 : 1 + a.size ≤ 9223372036854775807 := by omega
  have b2 : b.size + 1 ≤ 9223372036854775807 := by omega
  have b3 : a.size + 1 ≤ 9223372036854775807 := by omega
  have lit : (⟨#[47]⟩ : ByteArray) = stSl := rfl
  refine Ev.step (f := fun k => (impl_SameFilePath.f k a b).bind fun t113 => if t113 = true then (impl_SameFilePath.f k (stSl ++ a) (b ++ stSl)).bind fun t114 => if t114 = true then (impl_SameFilePath.f k a (a ++ (⟨#[120]⟩ : ByteArray))).bind fun t115 => some (!t115) else some false else some false) (fun k => ?_) ?_
  · simp only [laws_FnSameCleaned.l0, if_neg hi, lit, if_pos b1, if_pos b2, if_pos b3]
  refine Ev.bind (f := fun k t113 => if t113 = true then (impl_SameFilePath.f k (stSl ++ a) (b ++ stSl)).bind fun t114 => if t114 = true then (impl_SameFilePath.f k a (a ++ (⟨#[120]⟩ : ByteArray))).bind fun t115 => some (!t115) else some false else some false) s1 ?_
  simp only [if_true]
  refine Ev.bind (f := fun k t114 => if t114 = true then (impl_SameFilePath.f k a (a ++ (⟨#[120]⟩ : ByteArray))).bind fun t115 => some (!t115) else some false) s2 ?_
  simp only [if_true]
  exact Ev.bind (f := fun k t115 => some (!t115)) s3 (Ev.now _)

def wayB (w : Nat) : ByteArray := ofL (wayText.getD w [])
theorem wayB_size (w : Nat) (hw : w < 3) : (wayB w).size ≤ 10 := by
  unfold wayB; rw [ofL_size]
  rcases (by omega : w = 0 ∨ w = 1 ∨ w = 2) with rfl | rfl | rfl <;> decide
theorem wayB_rd (w : Nat) (hw : w < 3) : rdOf ByteArray.empty ([(⟨#[46, 47]⟩ : ByteArray), (⟨#[120, 47, 46, 46, 47]⟩ : ByteArray), (⟨#[46, 47, 121, 47, 46, 47, 46, 46, 47]⟩ : ByteArray)] : List ByteArray) (w : Int) = wayB w := by
  rcases (by omega : w = 0 ∨ w = 1 ∨ w = 2) with rfl | rfl | rfl <;> rfl

theorem sc_loop (l : List ByteArray) (hl : l.length ≤ 50) (h1 : 1 ≤ l.length) (at_ way : Int) (w : Nat) (hw : w < 3) (hway : Int.tmod way 3 = (w : Int)) (hs : ∀ i : Int, (rdOf ByteArray.empty l i).size ≤ 2147483647) :
    ∀ (d i : Nat) (a b : ByteArray), l.length - i = d → i ≤ l.length → a.size ≤ 2000 * i → b.size ≤ 2000 * i →
    (∀ j (hj : j < (l.map (fun x => x.data.toList)).length), j < i → Good (l.map (fun x => x.data.toList))[j]) →
    (i = 0 → a.data.toList = [] ∧ b.data.toList = []) → (0 < i → Upto (l.map (fun x => x.data.toList)) i a.data.toList ∧ Upto (l.map (fun x => x.data.toList)) i b.data.toList) →
    Ev (fun k => laws_FnSameCleaned.l0 k at_ way a b l (l.length : Int) i) true := by
  generalize hD : l.map (fun x => x.data.toList) = D
  have hlen : D.length = l.length := by rw [← hD]; simp
  intro d
  induction d with
  | zero =>
    intro i a b hd hi za zb hg hz hu
    have hi' : i = D.length := by omega
    subst hi'
    obtain ⟨ua, ub⟩ := hu (by omega)
    refine sc_final D a b (by omega) (fun e he => ?_) ua ub (by omega) (by omega) at_ way l _ (by omega)
    obtain ⟨j, hj, rfl⟩ := List.getElem_of_mem he
    exact hg j hj hj
  | succ d ih =>
    intro i a b hd hi za zb hg hz hu
    have hlt : i < l.length := by omega
    have hj : i < D.length := by omega
    have er : (rdOf ByteArray.empty l (i : Int)).data.toList = D[i] := by
      unfold rdOf
      rw [show ((i : Int)).toNat = i from rfl, getD_in _ _ _ hlt]
      simp [← hD]
    have gz := hs (i : Int)
    generalize hq : rdOf ByteArray.empty l (i : Int) = f at er gz
    have b1 : (i : Int) < (l.length : Int) := by omega
    have b2 : (0 : Int) ≤ (i : Int) := by omega
    have out : Ev (fun k => laws_FnSameCleaned.j2 k at_ way a b (i : Int) f l (l.length : Int) (i : Int) true) true :=
      Ev.step (f := fun _ => some true) (fun k => by simp only [laws_FnSameCleaned.j2, if_true]) (Ev.now _)
    by_cases c1 : f.toList = ([] : List UInt8)
    · refine Ev.step (fun k => ?_) out
      simp only [laws_FnSameCleaned.l0, if_pos b1, if_pos b2, hq, if_pos c1]
    by_cases c2 : f.toList = ([46] : List UInt8)
    · refine Ev.step (fun k => ?_) out
      simp only [laws_FnSameCleaned.l0, if_pos b1, if_pos b2, hq, if_neg c1, if_pos c2]
    by_cases c3 : f.toList = ([46, 46] : List UInt8)
    · refine Ev.step (fun k => ?_) out
      simp only [laws_FnSameCleaned.l0, if_pos b1, if_pos b2, hq, if_neg c1, if_neg c2, if_pos c3]
    have sl_size : stSl.size = 1 := rfl
    have lit : (⟨#[47]⟩ : ByteArray) = stSl := rfl
    obtain ⟨hb, hbe, ht, hf⟩ := has_tells f stSl (by omega) (by rw [sl_size]; omega)
    refine Ev.step (f := fun k => (laws_has.f k f stSl).bind fun t => if t = true then laws_FnSameCleaned.j2 k at_ way a b (i : Int) f l (l.length : Int) (i : Int) true else laws_FnSameCleaned.j2 k at_ way a b (i : Int) f l (l.length : Int) (i : Int) (decide ((f.size : Int) > 1000))) (fun k => ?_) ?_
    · simp only [laws_FnSameCleaned.l0, if_pos b1, if_pos b2, hq, if_neg c1, if_neg c2, if_neg c3, lit]
    refine Ev.bind (f := fun k t => if t = true then laws_FnSameCleaned.j2 k at_ way a b (i : Int) f l (l.length : Int) (i : Int) true else laws_FnSameCleaned.j2 k at_ way a b (i : Int) f l (l.length : Int) (i : Int) (decide ((f.size : Int) > 1000))) hbe ?_
    cases hb with
    | true => simp only [if_true]; exact out
    | false =>
      simp only [Bool.false_eq_true, if_false]
      by_cases c4 : (f.size : Int) > 1000
      · rw [decide_eq_true c4]; exact out
      rw [decide_eq_false c4]
      have gi : Good D[i] := by
        rw [← er]
        refine ⟨fun q => c1 (by rw [list_eq]; exact q), fun q => c2 (by rw [list_eq]; exact q), fun q => c3 (by rw [list_eq]; exact q), fun hm => ?_⟩
        obtain ⟨j, hj2, he⟩ := List.getElem_of_mem hm
        refine hf rfl j ((hasAt_byte f 47 j).2 ⟨by rw [← size_len]; exact hj2, ?_⟩)
        rw [Flds0.byte_at f j hj2, he]
      have hg' : ∀ j (hj : j < D.length), j < i + 1 → Good D[j] := fun j hj2 hlt2 => by
        by_cases q : j = i
        · subst q; exact gi
        · exact hg j hj2 (by omega)
      have hg2 : ∀ j (hj : j < D.length), j ≤ i → Good D[j] := fun j hj2 hlt2 => hg' j hj2 (by omega)
      have wz := wayB_size w hw
      have wd : (wayB w).data.toList = wayText.getD w [] := by unfold wayB; rw [ofL_data]
      have c5 : (0 : Int) ≤ (w : Int) := by omega
      have c6 : (w : Int) < ((([(⟨#[46, 47]⟩ : ByteArray), (⟨#[120, 47, 46, 46, 47]⟩ : ByteArray), (⟨#[46, 47, 121, 47, 46, 47, 46, 46, 47]⟩ : ByteArray)] : List ByteArray).length : Nat) : Int) := by
        show (w : Int) < ((3 : Nat) : Int); omega
      have w1 : ∀ q : Unit, wrap64 ((i : Int) + 1) = ((i + 1 : Nat) : Int) := fun _ => by rw [wrap_id _ (by omega)]; rfl
      by_cases h0 : i = 0
      · obtain ⟨ea, eb⟩ := hz h0
        have b3 : ¬ (i : Int) > 0 := by omega
        have za0 : (a ++ f).size = a.size + f.size := app_size _ _
        have da : (a ++ f).data.toList = D[i] := by rw [data_app, ea, er]; rfl
        by_cases hat : (i : Int) = at_
        · have zb1 : (b ++ wayB w).size = b.size + (wayB w).size := app_size _ _
          have zb2 : ((b ++ wayB w) ++ f).size = b.size + (wayB w).size + f.size := by rw [app_size, zb1]
          have db : ((b ++ wayB w) ++ f).data.toList = wayText.getD w [] ++ D[i] := by rw [data_app, data_app, eb, er, wd]; rfl
          have res := ih (i + 1) (a ++ f) ((b ++ wayB w) ++ f) (by omega) (by omega) (by omega) (by omega) hg' (fun q => by omega) (fun _ => by
            rw [da, db]; subst h0; exact ⟨upto_first hj gi, upto_first_way hj gi w hw⟩)
          refine Ev.step (fun k => ?_) res
          have b4 : b.size + (wayB w).size ≤ 9223372036854775807 := by omega
          have b5 : a.size + f.size ≤ 9223372036854775807 := by omega
          have b6 : (b ++ wayB w).size + f.size ≤ 9223372036854775807 := by omega
          simp only [laws_FnSameCleaned.j2, Bool.false_eq_true, if_false, if_neg b3, if_pos hat, Option.bind_some, hway, if_pos c5, if_pos c6, wayB_rd w hw, if_pos b4, if_pos b5, if_pos b6, w1 ()]
        · have zb2 : (b ++ f).size = b.size + f.size := app_size _ _
          have db : (b ++ f).data.toList = D[i] := by rw [data_app, eb, er]; rfl
          have res := ih (i + 1) (a ++ f) (b ++ f) (by omega) (by omega) (by omega) (by omega) hg' (fun q => by omega) (fun _ => by
            rw [da, db]; subst h0; exact ⟨upto_first hj gi, upto_first hj gi⟩)
          refine Ev.step (fun k => ?_) res
          have b4 : b.size + f.size ≤ 9223372036854775807 := by omega
          have b5 : a.size + f.size ≤ 9223372036854775807 := by omega
          simp only [laws_FnSameCleaned.j2, Bool.false_eq_true, if_false, if_neg b3, if_neg hat, if_pos b4, if_pos b5, w1 ()]
      · obtain ⟨ua, ub⟩ := hu (by omega)
        have b3 : (i : Int) > 0 := by omega
        have za1 : (a ++ stSl).size = a.size + 1 := by rw [app_size, sl_size]
        have zb1 : (b ++ stSl).size = b.size + 1 := by rw [app_size, sl_size]
        have za2 : ((a ++ stSl) ++ f).size = a.size + 1 + f.size := by rw [app_size, za1]
        have da : ((a ++ stSl) ++ f).data.toList = a.data.toList ++ [47] ++ D[i] := by rw [data_app, data_app, stSl_list, er]
        have b4 : a.size + 1 ≤ 9223372036854775807 := by omega
        have b5 : b.size + 1 ≤ 9223372036854775807 := by omega
        have b6 : (a ++ stSl).size + f.size ≤ 9223372036854775807 := by omega
        have na := (ua.next (by omega) hj hg2).1
        by_cases hat : (i : Int) = at_
        · have zb2 : ((b ++ stSl) ++ wayB w).size = b.size + 1 + (wayB w).size := by rw [app_size, zb1]
          have zb3 : (((b ++ stSl) ++ wayB w) ++ f).size = b.size + 1 + (wayB w).size + f.size := by rw [app_size, zb2]
          have db : (((b ++ stSl) ++ wayB w) ++ f).data.toList = b.data.toList ++ [47] ++ wayText.getD w [] ++ D[i] := by rw [data_app, data_app, data_app, stSl_list, er, wd]
          have nb := (ub.next (by omega) hj hg2).2 w hw
          have res := ih (i + 1) ((a ++ stSl) ++ f) (((b ++ stSl) ++ wayB w) ++ f) (by omega) (by omega) (by omega) (by omega) hg' (fun q => by omega) (fun _ => by rw [da, db]; exact ⟨na, nb⟩)
          refine Ev.step (fun k => ?_) res
          have b7 : (b ++ stSl).size + (wayB w).size ≤ 9223372036854775807 := by omega
          have b8 : ((b ++ stSl) ++ wayB w).size + f.size ≤ 9223372036854775807 := by omega
          simp only [laws_FnSameCleaned.j2, Bool.false_eq_true, if_false, if_pos b3, if_pos hat, lit, if_pos b4, if_pos b5, Option.bind_some, hway, if_pos c5, if_pos c6, wayB_rd w hw, if_pos b6, if_pos b7, if_pos b8, w1 ()]
        · have zb2 : ((b ++ stSl) ++ f).size = b.size + 1 + f.size := by rw [app_size, zb1]
          have db : ((b ++ stSl) ++ f).data.toList = b.data.toList ++ [47] ++ D[i] := by rw [data_app, data_app, stSl_list, er]
          have nb := (ub.next (by omega) hj hg2).1
          have res := ih (i + 1) ((a ++ stSl) ++ f) ((b ++ stSl) ++ f) (by omega) (by omega) (by omega) (by omega) hg' (fun q => by omega) (fun _ => by rw [da, db]; exact ⟨na, nb⟩)
          refine Ev.step (fun k => ?_) res
          have b7 : (b ++ stSl).size + f.size ≤ 9223372036854775807 := by omega
          simp only [laws_FnSameCleaned.j2, Bool.false_eq_true, if_false, if_pos b3, if_neg hat, lit, if_pos b4, if_pos b5, if_pos b6, if_pos b7, w1 ()]

theorem FnSameCleaned (l : List ByteArray) (at_ way : Int) (hl : l.length ≤ 8796093022208) (hat : (Lit.int .i64 at_).wf = true) (hw : (Lit.int .u8 way).wf = true) : ∃ k, laws_FnSameCleaned.f k l at_ way = some true := by
  refine Ev.rounds ?_
  have hw2 : 0 ≤ way := by
    simp [Lit.wf, IntKind.min, IntKind.max, IntKind.bits, IntKind.signed] at hw
    omega
  have j0t : Ev (fun k => laws_FnSameCleaned.j0 k l at_ way true) true := Ev.step (f := fun _ => some true) (fun k => by simp only [laws_FnSameCleaned.j0, if_true]) (Ev.now _)
  obtain ⟨b, hb, hsh⟩ := fits_tells l hl
  refine Ev.congr (f := fun k => (laws_zzFits3.f k l).bind fun t => if t = true then (if (l.length : Int) < 1 then laws_FnSameCleaned.j0 k l at_ way true else if (l.length : Int) > 50 then laws_FnSameCleaned.j0 k l at_ way true else if at_ < 0 then laws_FnSameCleaned.j0 k l at_ way true else laws_FnSameCleaned.j0 k l at_ way (decide (at_ > (l.length : Int)))) else some true) (fun k => by unfold laws_FnSameCleaned.f; rfl) ?_
  refine Ev.bind (f := fun k t => if t = true then (if (l.length : Int) < 1 then laws_FnSameCleaned.j0 k l at_ way true else if (l.length : Int) > 50 then laws_FnSameCleaned.j0 k l at_ way true else if at_ < 0 then laws_FnSameCleaned.j0 k l at_ way true else laws_FnSameCleaned.j0 k l at_ way (decide (at_ > (l.length : Int)))) else some true) hb ?_
  cases b with
  | false => simp only [Bool.false_eq_true, if_false]; exact Ev.now _
  | true =>
    simp only [if_true]
    by_cases h1 : (l.length : Int) < 1
    · simp only [if_pos h1]; exact j0t
    by_cases h2 : (l.length : Int) > 50
    · simp only [if_neg h1, if_pos h2]; exact j0t
    by_cases h3 : at_ < 0
    · simp only [if_neg h1, if_neg h2, if_pos h3]; exact j0t
    simp only [if_neg h1, if_neg h2, if_neg h3]
    by_cases h4 : at_ > (l.length : Int)
    · simp only [decide_eq_true h4]; exact j0t
    simp only [decide_eq_false h4]
    have hm : Int.tmod way 3 = (((way.toNat % 3 : Nat)) : Int) := by
      rw [Int.tmod_eq_emod_of_nonneg hw2]
      omega
    have res := sc_loop l (by omega) (by omega) at_ way (way.toNat % 3) (by omega) hm (hsh rfl).2 l.length 0 ByteArray.empty ByteArray.empty (by omega) (by omega) (by simp) (by simp) (fun j hj h => by omega) (fun _ => ⟨rfl, rfl⟩) (fun h => by omega)
    refine Ev.step (fun k => ?_) res
    simp only [laws_FnSameCleaned.j0, Bool.false_eq_true, if_false]
    rfl
end Go.Proofs.Ytckfbpgjegbmlaa.Pure
