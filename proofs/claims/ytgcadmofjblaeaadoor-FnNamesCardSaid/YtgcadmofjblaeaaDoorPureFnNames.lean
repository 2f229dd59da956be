/- FnNames, the plain law: what the functions of a path's name and extension tell; for every text. -/
import Derived.Test.YtgcadmofjblaeaaDoorPFnNamesx2
import Derived.Test.YtgcadmofjblaeaaDoorExt0
set_option linter.unusedVariables false
namespace Go.Proofs.YtgcadmofjblaeaaDoor.Pure
open Go.RowKit Go.Lib Go.Proofs.YtgcadmofjblaeaaDoor.PFnNames Go.Proofs.YtgcadmofjblaeaaDoorW.PrintWords Go.Proofs.YtgcadmofjblaeaaDoorW.PrintLast Go.Proofs.YtgcadmofjblaeaaDoor.Lib0 Go.Proofs.YtgcadmofjblaeaaDoor.Ext0

namespace Names
def dot : ByteArray := ⟨#[46]⟩
theorem dot_lit : (⟨#[46]⟩ : ByteArray) = dot := rfl
theorem dot_size : dot.size = 1 := rfl
theorem dot_list : dot.toList = [46] := by rw [list_eq]; rfl

theorem trim_f (t : ByteArray) (d : List UInt8) (h : t.data.toList = 46 :: d) : strings_TrimPrefix.f t dot = some ⟨d.toArray⟩ := by
  unfold strings_TrimPrefix.f stringslite_TrimPrefix.f stringslite_HasPrefix.f
  rw [dot_size, dot_list]
  have hz := size_len t
  rw [h, List.length_cons] at hz
  have he0 : (t.extract 0 1).toList = [46] := by rw [list_ext, list_eq, h]; simp
  have he1 : (t.extract 1 t.size).data.toList = d := by rw [data_ext, ← hz, h]; simp
  rw [show (((1 : Nat) : Int)).toNat = 1 from rfl, he0]
  generalize hr : t.extract 1 t.size = r at he1
  rw [if_pos (by omega), if_pos (by omega), if_pos (by omega)]
  simp only [Option.bind_some]
  rw [if_pos (by simp), if_pos (by omega), if_pos (by omega)]
  simp only [Option.bind_some]
  congr 1
  apply bytes_ext
  rw [he1]
theorem trim_nil (t : ByteArray) (h : t.data.toList = []) : strings_TrimPrefix.f t dot = some t := by
  unfold strings_TrimPrefix.f stringslite_TrimPrefix.f stringslite_HasPrefix.f
  rw [dot_size, dot_list]
  have hz := size_len t
  rw [h, List.length_nil] at hz
  rw [if_neg (by omega)]
  simp only [Option.bind_some]
  rw [if_neg (by simp)]
  rfl

theorem byte_iff (a c : UInt8) : ((a.toNat : Int) = (c.toNat : Int)) ↔ a = c := ⟨fun h => UInt8.toNat_inj.1 (by omega), fun h => by rw [h]⟩

theorem pl_loop (s : ByteArray) (c : UInt8) (hs : s.size ≤ 140737488361232) : ∀ (d i : Nat), s.size - i = d → i ≤ s.size →
    Ev (fun k => spec_pathLast.l0 k s (c.toNat : Int) (Pa.lastIdx s.data.toList c i) i) (Pa.lastIndexByte s.data.toList c) := by
  intro d
  induction d with
  | zero =>
    intro i hd hi
    have : i = s.data.toList.length := by rw [size_len]; omega
    refine Ev.step (f := fun _ => some (Pa.lastIndexByte s.data.toList c)) (fun k => ?_) (Ev.now _)
    simp only [spec_pathLast.l0]
    rw [if_neg (by omega), this]
    rfl
  | succ d ih =>
    intro i hd hi
    have h' : i < s.data.toList.length := by rw [size_len]; omega
    refine Ev.step (fun k => ?_) (ih (i + 1) (by omega) (by omega))
    simp only [spec_pathLast.l0]
    rw [if_pos (by omega), if_pos (by omega), wrap_id _ (by omega), bt_list, show ((i : Int)).toNat = i from rfl, getD_in _ _ _ h']
    have hl : Pa.lastIdx s.data.toList c (i + 1) = if s.data.toList[i]? = some c then (i : Int) else Pa.lastIdx s.data.toList c i := rfl
    rw [List.getElem?_eq_getElem h'] at hl
    by_cases e : s.data.toList[i] = c
    · rw [if_pos ((byte_iff _ _).2 e), hl, if_pos (by rw [e])]
      rfl
    · rw [if_neg (mt (byte_iff _ _).1 e), hl, if_neg (by intro q; exact e (Option.some.inj q))]
      rfl

theorem pl (s : ByteArray) (c : UInt8) (hs : s.size ≤ 140737488361232) : Ev (fun k => spec_pathLast.f k s (c.toNat : Int)) (Pa.lastIndexByte s.data.toList c) :=
  pl_loop s c hs s.size 0 (by omega) (by omega)

/-- What the statement says of a path. -/
def nm (l : List UInt8) : List UInt8 := if tailL l = [] then [] else if tailL l = [46] ∨ tailL l = [46, 46] then [] else stem l

theorem impl_all (s : ByteArray) (hs : s.size ≤ 140737488351232) : fae 2 s = some (⟨(nm s.data.toList).toArray⟩, extB s) := by
  unfold nm
  by_cases h : tailL s.data.toList = []
  · rw [if_pos h]; exact fae_none s hs h
  · rw [if_neg h, fae_tail s hs h]
    split <;> rfl

theorem spec_all (s : ByteArray) (hs : s.size ≤ 140737488351232) : ∃ n x : ByteArray, Ev (fun k => spec_FileAndExt.f k s) (n, x) ∧ n.toList = nm s.data.toList ∧ x.toList = Pa.ext s.data.toList := by
  have p1 := pl s 47 (by omega)
  have hb := Pa.lastIndexByte_bounds s.data.toList 47
  rw [size_len] at hb
  obtain ⟨a, ha⟩ : ∃ a, Pa.lastIndexByte s.data.toList 47 = a := ⟨_, rfl⟩
  obtain ⟨t, ht⟩ : ∃ t, s.extract (a + 1).toNat s.size = t := ⟨_, rfl⟩
  have htl : t.data.toList = tailL s.data.toList := by
    rw [← ht, data_ext, tail_drop, ha, ← size_len, List.take_length]
  have htz : t.size ≤ s.size := by rw [← size_len, htl, tail_drop, List.length_drop, size_len]; omega
  have htL : t.toList = tailL s.data.toList := by rw [list_eq, htl]
  have p2 := pl t 46 (by omega)
  have hb2 := Pa.lastIndexByte_bounds t.data.toList 46
  rw [size_len] at hb2
  obtain ⟨b, hbb⟩ : ∃ b, Pa.lastIndexByte t.data.toList 46 = b := ⟨_, rfl⟩
  rw [ha] at p1 hb
  rw [hbb] at p2 hb2
  have key : ∀ r : ByteArray × ByteArray, (if b < 0 then some (t, (⟨#[]⟩ : ByteArray)) else if t.toList = ([46] : List UInt8) then some ((⟨#[]⟩ : ByteArray), t.extract b.toNat t.size) else if t.toList = ([46, 46] : List UInt8) then some ((⟨#[]⟩ : ByteArray), t.extract b.toNat t.size) else some (t.extract 0 b.toNat, t.extract b.toNat t.size)) = some r → Ev (fun k => spec_FileAndExt.f k s) r := by
    intro r hr
    unfold spec_FileAndExt.f
    refine Ev.bind (f := fun k t114 => _) p1 ?_
    simp only [wrap_id (a + 1) (by omega), if_pos (show 0 ≤ a + 1 by omega), if_pos (show a + 1 ≤ (s.size : Int) by omega), ht]
    refine Ev.bind (f := fun k t115 => _) p2 ?_
    by_cases g : b < 0
    · rw [if_pos g] at hr
      simp only [if_pos g, hr]
      exact Ev.now _
    · rw [if_neg g] at hr
      simp only [if_neg g, if_pos (show 0 ≤ b by omega), if_pos (show b ≤ (t.size : Int) by omega), hr]
      exact Ev.now _
  rcases ext_tells s.data.toList with ⟨he, hno⟩ | ⟨p, d, hp, he, h46, h47⟩
  · have hbn : b < 0 := by
      rcases Pa.lastIndexByte_spec t.data.toList 46 with ⟨e, _⟩ | ⟨i, e, hi, _⟩
      · omega
      · rw [htl] at hi; exact absurd (List.mem_of_getElem? hi) hno
    refine ⟨t, ⟨#[]⟩, key _ (by rw [if_pos hbn]), ?_, by rw [he, list_eq]⟩
    rw [htL]
    unfold nm stem
    by_cases h0 : tailL s.data.toList = []
    · rw [if_pos h0, h0]
    · rw [if_neg h0, if_neg (by rintro (h | h) <;> exact hno (by rw [h]; simp)), if_pos he, base_tail _ h0]
  · have hbi : b = p.length := by
      rw [← hbb, htl, hp]
      exact Pa.lastIdx_eq_of _ _ p.length _ (by simp) (by simp) (fun j h1 h2 => by
        rw [List.getElem?_append_right (by omega)]
        obtain ⟨q, hq⟩ : ∃ q, j - p.length = q + 1 := ⟨j - p.length - 1, by omega⟩
        rw [hq, List.getElem?_cons_succ]
        intro e
        exact h46 (List.mem_of_getElem? e))
    obtain ⟨hst, _, _⟩ := stem_of _ p d hp h46
    have hx : (t.extract b.toNat t.size).toList = 46 :: d := by
      rw [list_eq, data_ext, ← size_len, List.take_length, htl, hp, hbi, show ((p.length : Int)).toNat = p.length from rfl, List.drop_left]
    have hn : (t.extract 0 b.toNat).toList = p := by
      rw [list_eq, data_ext, htl, hp, hbi, show ((p.length : Int)).toNat = p.length from rfl]
      simp
    have g : ¬ b < 0 := by omega
    have h0 : tailL s.data.toList ≠ [] := by rw [hp]; simp
    unfold nm
    rw [if_neg h0]
    by_cases c1 : tailL s.data.toList = [46]
    · refine ⟨⟨#[]⟩, _, key _ (by rw [if_neg g, if_pos (by rw [htL]; exact c1)]), by rw [if_pos (.inl c1), list_eq], by rw [hx, he]⟩
    by_cases c2 : tailL s.data.toList = [46, 46]
    · refine ⟨⟨#[]⟩, _, key _ (by rw [if_neg g, if_neg (by rw [htL]; exact c1), if_pos (by rw [htL]; exact c2)]), by rw [if_pos (.inr c2), list_eq], by rw [hx, he]⟩
    refine ⟨_, _, key _ (by rw [if_neg g, if_neg (by rw [htL]; exact c1), if_neg (by rw [htL]; exact c2)]), ?_, by rw [hx, he]⟩
    rw [hn, if_neg (by rintro (h | h); exact c1 h; exact c2 h), hst]
end Names
open Names

theorem FnNames : laws_FnNames.Pure := by
  intro s hs
  have key : Ev (fun k => laws_FnNames.f k s) true := by
    have j0t : Ev (fun k => laws_FnNames.j0 k s true) true := Ev.step (f := fun _ => some true) (fun k => by simp only [laws_FnNames.j0]; rw [if_pos trivial]) (Ev.now _)
    unfold laws_FnNames.f
    by_cases g : (s.size : Int) > 2147483647
    · simp only [if_pos g]; exact Ev.now _
    simp only [if_neg g]
    by_cases g2 : (s.size : Int) > 65536
    · simp only [if_pos g2]; exact j0t
    simp only [if_neg g2]
    unfold spec_NameKnown.f
    simp only [Option.bind_some]
    rw [decide_eq_true (by omega : (s.size : Int) ≥ 0)]
    obtain ⟨n, x, hn, en, ex⟩ := spec_all s hs
    have hi := impl_all s hs
    have i1 : impl_FileAndExt.f s = some (⟨(nm s.data.toList).toArray⟩, extB s) := by
      unfold impl_FileAndExt.f paths_FileAndExt.f; rw [hi]; rfl
    have i2 : impl_FileAndExtNoDelimiter.f s = some (⟨(nm s.data.toList).toArray⟩, ⟨(Lib.trimPrefix (Pa.ext s.data.toList) [46]).toArray⟩) := by
      unfold impl_FileAndExtNoDelimiter.f paths_FileAndExtNoDelimiter.f; rw [hi]; rfl
    have i3 : impl_PathAndExt.f s = some (⟨(nm s.data.toList).toArray⟩, extB s) := by
      unfold impl_PathAndExt.f paths_PathAndExt.f; rw [hi]; rfl
    have i4 : impl_Ext.f s = some (extB s) := by unfold impl_Ext.f paths_Ext.f; rw [hi]; rfl
    have i6 : impl_Filename.f s = some ⟨(nm s.data.toList).toArray⟩ := by unfold impl_Filename.f paths_Filename.f; rw [hi]; rfl
    have el : (extB s).data.toList = Pa.ext s.data.toList := rfl
    have eL : (extB s).toList = x.toList := by rw [ex, list_eq, el]
    have eN : (⟨(nm s.data.toList).toArray⟩ : ByteArray).toList = n.toList := by rw [mk_list, en]
    obtain ⟨y, hy, ey⟩ : ∃ y : ByteArray, Ev (fun k => spec_FileAndExtNoDelimiter.f k s) (n, y) ∧ y.toList = Lib.trimPrefix (Pa.ext s.data.toList) [46] := by
      rcases ext_tells s.data.toList with ⟨he, _⟩ | ⟨p, d, _, he, _, _⟩
      · refine ⟨x, ?_, by rw [ex, he]; rfl⟩
        unfold spec_FileAndExtNoDelimiter.f
        refine Ev.bind (f := fun k r => _) hn ?_
        have : x.toList = ([] : List UInt8) := by rw [ex, he]
        simp only [if_pos this]
        exact Ev.now _
      · have hx : x.toList = 46 :: d := by rw [ex, he]
        have hz : x.size = d.length + 1 := by rw [← size_len, ← list_eq, hx]; rfl
        refine ⟨x.extract 1 x.size, ?_, ?_⟩
        · unfold spec_FileAndExtNoDelimiter.f
          refine Ev.bind (f := fun k r => _) hn ?_
          have : ¬ x.toList = ([] : List UInt8) := by rw [hx]; simp
          simp only [if_neg this, if_pos (show 1 ≤ (x.size : Int) by omega)]
          exact Ev.now _
        · rw [list_ext, hx, hz, he]
          simp
          rfl
    have eY : (⟨(Lib.trimPrefix (Pa.ext s.data.toList) [46]).toArray⟩ : ByteArray).toList = y.toList := by rw [mk_list, ey]
    have i5 : impl_ExtNoDelimiter.f s = some ⟨(Lib.trimPrefix (Pa.ext s.data.toList) [46]).toArray⟩ := by
      unfold impl_ExtNoDelimiter.f paths_ExtNoDelimiter.f
      unfold impl_Ext.f at i4
      have i4' : paths_Ext.f s = some (extB s) := by
        cases h : paths_Ext.f s with
        | none => rw [h] at i4; cases i4
        | some v => rw [h] at i4; exact i4
      rw [i4']
      simp only [Option.bind_some]
      rcases ext_tells s.data.toList with ⟨he, _⟩ | ⟨p, d, _, he, _, _⟩
      · rw [dot_lit, trim_nil _ (by rw [el, he])]
        simp only [Option.bind_some]
        congr 1
        apply bytes_ext
        rw [el, he]; rfl
      · rw [dot_lit, trim_f _ d (by rw [el, he])]
        simp only [Option.bind_some]
        rw [he]; rfl
    have s3 : Ev (fun k => spec_PathAndExt.f k s) (n, x) := by
      unfold spec_PathAndExt.f
      exact Ev.bind (f := fun k r => some (r.1, r.2)) hn (Ev.now _)
    have s4 : Ev (fun k => spec_Ext.f k s) x := by
      unfold spec_Ext.f
      exact Ev.bind (f := fun k r => some r.2) hn (Ev.now _)
    have s5 : Ev (fun k => spec_ExtNoDelimiter.f k s) y := by
      unfold spec_ExtNoDelimiter.f
      exact Ev.bind (f := fun k r => some r.2) hy (Ev.now _)
    have s6 : Ev (fun k => spec_Filename.f k s) n := by
      unfold spec_Filename.f
      exact Ev.bind (f := fun k r => some r.1) hn (Ev.now _)
    refine Ev.step (f := fun k => _) (fun k => by simp only [laws_FnNames.j0]; rfl) ?_
    simp only [Bool.not_true, Bool.false_eq_true, if_false, i1, i2, i3, i4, i5, i6, Option.bind_some]
    refine Ev.bind (f := fun k r => _) hn ?_
    refine Ev.bind (f := fun k r => _) hy ?_
    refine Ev.bind (f := fun k r => _) s3 ?_
    simp only [eN, eL, eY, if_true]
    refine Ev.bind (f := fun k r => _) s4 ?_
    simp only [if_true]
    refine Ev.bind (f := fun k r => _) s5 ?_
    simp only [if_true]
    refine Ev.bind (f := fun k r => _) s6 ?_
    simp only [beq_self_eq_true]
    exact Ev.now _
  obtain ⟨k, hk⟩ := key
  exact ⟨k, hk k (Nat.le_refl _)⟩
end Go.Proofs.YtgcadmofjblaeaaDoor.Pure
