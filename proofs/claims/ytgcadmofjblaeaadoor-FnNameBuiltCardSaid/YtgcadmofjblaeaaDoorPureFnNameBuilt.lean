/- FnNameBuilt, the plain law: of a path built of folders, a name and an extension the functions tell the name and the extension; for all of them. -/
import Derived.Test.YtgcadmofjblaeaaDoorPFnNameBuiltx2
import Derived.Test.YtgcadmofjblaeaaDoorExt0
import Derived.Test.YtgcadmofjblaeaaDoorHas0FnNameBuilt
import Derived.Test.YtgcadmofjblaeaaDoorFits0FnNameBuilt
set_option linter.unusedVariables false
namespace Go.Proofs.YtgcadmofjblaeaaDoor.Pure
open Go.RowKit Go.Lib Go.Proofs.YtgcadmofjblaeaaDoor.PFnNameBuilt Go.Proofs.YtgcadmofjblaeaaDoorW.PrintWords Go.Proofs.YtgcadmofjblaeaaDoorW.PrintLast Go.Proofs.YtgcadmofjblaeaaDoor.Lib0 Go.Proofs.YtgcadmofjblaeaaDoor.Ext0 Go.Proofs.YtgcadmofjblaeaaDoor.Has0FnNameBuilt Go.Proofs.YtgcadmofjblaeaaDoor.Fits0FnNameBuilt

namespace NameBuilt
def sl : ByteArray := ⟨#[47]⟩
def dot : ByteArray := ⟨#[46]⟩
theorem sl_lit : (⟨#[47]⟩ : ByteArray) = sl := rfl
theorem dot_lit : (⟨#[46]⟩ : ByteArray) = dot := rfl
theorem sl_size : sl.size = 1 := rfl
theorem dot_size : dot.size = 1 := rfl
theorem dot_list : dot.toList = [46] := by rw [list_eq]; rfl

theorem trim_f (t : ByteArray) (d : List UInt8) (h : t.data.toList = 46 :: d) : strings_TrimPrefix.f t dot = some ⟨d.toArray⟩ := by
  unfold strings_TrimPrefix.f stringslite_TrimPrefix.f stringslite_HasPrefix.f
  rw [dot_size, dot_list]
  have hz := size_len t
  rw [h, List.length_cons] at hz
  have he0 : (t.extract 0 1).toList = [46] := by rw [list_ext, list_eq, h]; simp
  have he1 : (t.extract 1 t.size).data.toList = d := by rw [data_ext, ← hz, h]; simp
  rw [show (((1 : Nat) : Int)).toNat = 1 from rfl, he0]
  generalize hr : t.extract 1 t.size = r at he1
  rw [if_pos (by omega), if_pos (by omega), if_pos (by omega)]
  simp only [Option.bind_some]
  rw [if_pos (by simp), if_pos (by omega), if_pos (by omega)]
  simp only [Option.bind_some]
  congr 1
  apply bytes_ext
  rw [he1]

theorem no_list (t : ByteArray) (c : UInt8) (h : ∀ j, ¬ HasAt t ⟨#[c]⟩ j) : c ∉ t.data.toList := by
  intro hm
  obtain ⟨j, hj⟩ := List.getElem?_of_mem hm
  have hl : j < t.data.toList.length := by
    rcases Nat.lt_or_ge j t.data.toList.length with g | g
    · exact g
    · rw [List.getElem?_eq_none g] at hj; cases hj
  refine h j ((hasAt_byte _ _ _).2 ⟨by rw [← size_len]; exact hl, ?_⟩)
  rw [bt_list, show ((j : Int)).toNat = j from rfl, getD_in _ _ _ hl]
  rw [List.getElem?_eq_getElem hl] at hj
  rw [Option.some.inj hj]

def Ends (s : ByteArray) : Prop := s.data.toList = [] ∨ ∃ b, s.data.toList = b ++ [47]

theorem fin (s name ext : ByteArray) (he : Ends s) (h47n : (47 : UInt8) ∉ name.data.toList) (h47e : (47 : UInt8) ∉ ext.data.toList) (h46e : (46 : UInt8) ∉ ext.data.toList)
    (h0 : name.toList ≠ []) (h1 : name.toList ≠ [46]) (hz : s.size ≤ 10000000000) (hn : name.size ≤ 2147483647) (hx : ext.size ≤ 2147483647) (l : List ByteArray) (i : Int) (hi : ¬ i < (l.length : Int)) :
    Ev (fun k => laws_FnNameBuilt.l0 k name ext s l (l.length : Int) i) true := by
  have zz : (s ++ ((name ++ dot) ++ ext)).size = s.size + (name.size + 1 + ext.size) := by rw [app_size, app_size, app_size, dot_size]
  have hd : (s ++ ((name ++ dot) ++ ext)).data.toList = s.data.toList ++ (name.data.toList ++ 46 :: ext.data.toList) := by
    rw [data_app, data_app, data_app]
    show _ ++ (_ ++ [46] ++ _) = _
    simp
  have ht : tailL (s ++ ((name ++ dot) ++ ext)).data.toList = name.data.toList ++ 46 :: ext.data.toList := by
    rw [hd]
    refine tail_of _ _ he ?_
    intro hm
    rcases List.mem_append.1 hm with h | h
    · exact h47n h
    · rcases List.mem_cons.1 h with h | h
      · exact absurd h (by decide)
      · exact h47e h
  have hf := fae_name _ (by omega) _ _ ht h46e (by rw [← list_eq]; exact h0) (by rw [← list_eq]; exact h1) h47n
  have f1 : impl_FileAndExt.f (s ++ ((name ++ dot) ++ ext)) = some (⟨name.data.toList.toArray⟩, ⟨(46 :: ext.data.toList).toArray⟩) := by
    unfold impl_FileAndExt.f paths_FileAndExt.f; rw [hf]; rfl
  have f2 : impl_FileAndExtNoDelimiter.f (s ++ ((name ++ dot) ++ ext)) = some (⟨name.data.toList.toArray⟩, ⟨ext.data.toList.toArray⟩) := by
    unfold impl_FileAndExtNoDelimiter.f paths_FileAndExtNoDelimiter.f; rw [hf]; rfl
  have f3 : impl_Ext.f (s ++ ((name ++ dot) ++ ext)) = some ⟨(46 :: ext.data.toList).toArray⟩ := by
    unfold impl_Ext.f paths_Ext.f; rw [hf]; rfl
  have f4 : impl_ExtNoDelimiter.f (s ++ ((name ++ dot) ++ ext)) = some ⟨ext.data.toList.toArray⟩ := by
    unfold impl_ExtNoDelimiter.f paths_ExtNoDelimiter.f paths_Ext.f; rw [hf]
    simp only [Option.bind_some]
    rw [dot_lit, trim_f _ ext.data.toList rfl]; rfl
  have f5 : impl_Filename.f (s ++ ((name ++ dot) ++ ext)) = some ⟨name.data.toList.toArray⟩ := by
    unfold impl_Filename.f paths_Filename.f; rw [hf]; rfl
  have e1 : (⟨name.data.toList.toArray⟩ : ByteArray).toList = name.toList := by rw [mk_list]
  have e2 : (⟨ext.data.toList.toArray⟩ : ByteArray).toList = ext.toList := by rw [mk_list]
  have e3 : (⟨(46 :: ext.data.toList).toArray⟩ : ByteArray).toList = (dot ++ ext).toList := by rw [mk_list, list_eq, data_app]; rfl
  have b1 : name.size + 1 ≤ 9223372036854775807 := by omega
  have b2 : (name ++ dot).size + ext.size ≤ 9223372036854775807 := by rw [app_size, dot_size]; omega
  have b3 : s.size + ((name ++ dot) ++ ext).size ≤ 9223372036854775807 := by rw [← app_size]; omega
  have b4 : 1 + ext.size ≤ 9223372036854775807 := by omega
  refine Ev.step (f := fun _ => some true) (fun k => ?_) (Ev.now _)
  simp only [laws_FnNameBuilt.l0, dot_lit, if_neg hi, if_pos b1, if_pos b2, if_pos b3, if_pos b4, f1, f2, f3, f4, f5, Option.bind_some, e1, e2, e3, if_true, beq_self_eq_true]

theorem loop (name ext : ByteArray) (h47n : (47 : UInt8) ∉ name.data.toList) (h47e : (47 : UInt8) ∉ ext.data.toList) (h46e : (46 : UInt8) ∉ ext.data.toList)
    (h0 : name.toList ≠ []) (h1 : name.toList ≠ [46]) (hn : name.size ≤ 2147483647) (hx : ext.size ≤ 2147483647) (l : List ByteArray) (hs : Short l) (hl : l.length ≤ 8796093022208) :
    ∀ (d i : Nat) (s : ByteArray), l.length - i = d → i ≤ l.length → Ends s → s.size ≤ 10000000000 → Ev (fun k => laws_FnNameBuilt.l0 k name ext s l (l.length : Int) i) true := by
  intro d
  induction d with
  | zero => intro i s hd hi he hz; exact fin s name ext he h47n h47e h46e h0 h1 hz hn hx l i (by omega)
  | succ d ih =>
    intro i s hd hi he hz
    have hr := hs.2 (i : Int)
    obtain ⟨f, hf⟩ : ∃ f, rdOf ByteArray.empty l (i : Int) = f := ⟨_, rfl⟩
    rw [hf] at hr
    obtain ⟨b, hb, _, _⟩ := has_tells f sl (by omega) (by rw [sl_size]; omega)
    refine Ev.step (f := fun k => (laws_has.f k f sl).bind fun t119 => if t119 = true then some true else if f.toList = ([] : List UInt8) then some true else if (s.size : Int) > 65536 then some true else if f.size + 1 ≤ 9223372036854775807 then if s.size + (f ++ sl).size ≤ 9223372036854775807 then laws_FnNameBuilt.l0 k name ext (s ++ (f ++ sl)) l (l.length : Int) ((i + 1 : Nat) : Int) else none else none) (fun k => ?_) ?_
    · simp only [laws_FnNameBuilt.l0]
      rw [if_pos (by omega), if_pos (by omega), if_pos (by omega), hf, sl_lit, wrap_id _ (by omega)]
      rfl
    refine Ev.bind (f := fun k t119 => if t119 = true then some true else if f.toList = ([] : List UInt8) then some true else if (s.size : Int) > 65536 then some true else if f.size + 1 ≤ 9223372036854775807 then if s.size + (f ++ sl).size ≤ 9223372036854775807 then laws_FnNameBuilt.l0 k name ext (s ++ (f ++ sl)) l (l.length : Int) ((i + 1 : Nat) : Int) else none else none) hb ?_
    cases b with
    | true => simp only [if_true]; exact Ev.now _
    | false =>
      simp only [Bool.false_eq_true, if_false]
      by_cases c1 : f.toList = ([] : List UInt8)
      · simp only [if_pos c1]; exact Ev.now _
      by_cases c2 : (s.size : Int) > 65536
      · simp only [if_neg c1, if_pos c2]; exact Ev.now _
      have z1 : (f ++ sl).size = f.size + 1 := by rw [app_size, sl_size]
      simp only [if_neg c1, if_neg c2, if_pos (show f.size + 1 ≤ 9223372036854775807 by omega), if_pos (show s.size + (f ++ sl).size ≤ 9223372036854775807 by omega)]
      refine ih (i + 1) _ (by omega) (by omega) (.inr ⟨s.data.toList ++ f.data.toList, ?_⟩) (by rw [app_size, z1]; omega)
      rw [data_app, data_app]
      show _ ++ (_ ++ [47]) = _
      simp
end NameBuilt
open NameBuilt

theorem FnNameBuilt (l : List ByteArray) (name ext : ByteArray) (hl : l.length ≤ 8796093022208) (hname : name.size ≤ 140737488351232) (hext : ext.size ≤ 140737488351232) :
    ∃ k, laws_FnNameBuilt.f k l name ext = some true := by
  have j1t : Ev (fun k => laws_FnNameBuilt.j1 k l name ext true) true := Ev.step (f := fun _ => some true) (fun k => by simp only [laws_FnNameBuilt.j1]; rw [if_pos trivial]) (Ev.now _)
  have j0t : Ev (fun k => laws_FnNameBuilt.j0 k l name ext true) true := Ev.step (f := fun _ => some true) (fun k => by simp only [laws_FnNameBuilt.j0]; rw [if_pos trivial]) (Ev.now _)
  have key : Ev (fun k => laws_FnNameBuilt.f k l name ext) true := by
    obtain ⟨b, hb, hsh⟩ := fits_tells l hl
    refine Ev.bind (f := fun k t113 => if t113 = true then if (name.size : Int) > 2147483647 then laws_FnNameBuilt.j0 k l name ext true else laws_FnNameBuilt.j0 k l name ext (decide ((ext.size : Int) > 2147483647)) else laws_FnNameBuilt.j0 k l name ext true) hb ?_
    cases b with
    | false => simp only [Bool.false_eq_true, if_false]; exact j0t
    | true =>
      have hs := hsh rfl
      simp only [if_true]
      by_cases g1 : (name.size : Int) > 2147483647
      · simp only [if_pos g1]; exact j0t
      simp only [if_neg g1]
      by_cases g2 : (ext.size : Int) > 2147483647
      · rw [decide_eq_true g2]; exact j0t
      rw [decide_eq_false g2]
      by_cases c1 : (l.length : Int) > 2000
      · refine Ev.step (fun k => ?_) j1t
        simp only [laws_FnNameBuilt.j0]; rw [if_neg (by simp), if_pos c1]
      by_cases c2 : name.toList = ([] : List UInt8)
      · refine Ev.step (fun k => ?_) j1t
        simp only [laws_FnNameBuilt.j0]; rw [if_neg (by simp), if_neg c1, if_pos c2]
      by_cases c3 : name.toList = ([46] : List UInt8)
      · refine Ev.step (fun k => ?_) j1t
        simp only [laws_FnNameBuilt.j0]; rw [if_neg (by simp), if_neg c1, if_neg c2, if_pos c3]
      by_cases c4 : name.toList = ([46, 46] : List UInt8)
      · refine Ev.step (fun k => ?_) j1t
        simp only [laws_FnNameBuilt.j0]; rw [if_neg (by simp), if_neg c1, if_neg c2, if_neg c3, if_pos c4]
      obtain ⟨d1, hd1, _, n1⟩ := has_tells name sl (by omega) (by rw [sl_size]; omega)
      obtain ⟨d2, hd2, _, n2⟩ := has_tells ext sl (by omega) (by rw [sl_size]; omega)
      obtain ⟨d3, hd3, _, n3⟩ := has_tells ext dot (by omega) (by rw [dot_size]; omega)
      obtain ⟨d4, hd4, t4, _⟩ := has_tells name dot (by omega) (by rw [dot_size]; omega)
      have hne : 0 < (name.size : Int) := by
        have : name.toList.length ≠ 0 := fun e => c2 (List.eq_nil_of_length_eq_zero e)
        rw [list_eq, size_len] at this; omega
      refine Ev.step (f := fun k => (laws_has.f k name sl).bind fun t114 => if t114 = true then laws_FnNameBuilt.j1 k l name ext true else (laws_has.f k ext sl).bind fun t115 => if t115 = true then laws_FnNameBuilt.j1 k l name ext true else (laws_has.f k ext dot).bind fun t116 => if t116 = true then laws_FnNameBuilt.j1 k l name ext true else (laws_has.f k name dot).bind fun t117 => if t117 = true then if 0 < (name.size : Int) then laws_FnNameBuilt.j1 k l name ext ((bt name 0) == 46) else none else laws_FnNameBuilt.j1 k l name ext false) (fun k => ?_) ?_
      · simp only [laws_FnNameBuilt.j0]; rw [if_neg (by simp), if_neg c1, if_neg c2, if_neg c3, if_neg c4]; rfl
      refine Ev.bind (f := fun k t114 => if t114 = true then laws_FnNameBuilt.j1 k l name ext true else (laws_has.f k ext sl).bind fun t115 => if t115 = true then laws_FnNameBuilt.j1 k l name ext true else (laws_has.f k ext dot).bind fun t116 => if t116 = true then laws_FnNameBuilt.j1 k l name ext true else (laws_has.f k name dot).bind fun t117 => if t117 = true then if 0 < (name.size : Int) then laws_FnNameBuilt.j1 k l name ext ((bt name 0) == 46) else none else laws_FnNameBuilt.j1 k l name ext false) hd1 ?_
      cases d1 with
      | true => simp only [if_true]; exact j1t
      | false =>
      simp only [Bool.false_eq_true, if_false]
      refine Ev.bind (f := fun k t115 => if t115 = true then laws_FnNameBuilt.j1 k l name ext true else (laws_has.f k ext dot).bind fun t116 => if t116 = true then laws_FnNameBuilt.j1 k l name ext true else (laws_has.f k name dot).bind fun t117 => if t117 = true then if 0 < (name.size : Int) then laws_FnNameBuilt.j1 k l name ext ((bt name 0) == 46) else none else laws_FnNameBuilt.j1 k l name ext false) hd2 ?_
      cases d2 with
      | true => simp only [if_true]; exact j1t
      | false =>
      simp only [Bool.false_eq_true, if_false]
      refine Ev.bind (f := fun k t116 => if t116 = true then laws_FnNameBuilt.j1 k l name ext true else (laws_has.f k name dot).bind fun t117 => if t117 = true then if 0 < (name.size : Int) then laws_FnNameBuilt.j1 k l name ext ((bt name 0) == 46) else none else laws_FnNameBuilt.j1 k l name ext false) hd3 ?_
      cases d3 with
      | true => simp only [if_true]; exact j1t
      | false =>
      simp only [Bool.false_eq_true, if_false]
      have j1f : Ev (fun k => laws_FnNameBuilt.j1 k l name ext false) true := by
        refine Ev.step (fun k => ?_) (loop name ext (no_list _ _ (n1 rfl)) (no_list _ _ (n2 rfl)) (no_list _ _ (n3 rfl)) c2 c3 (by omega) (by omega) l hs hl l.length 0 ⟨#[]⟩ (by omega) (by omega) (.inl rfl) (by show 0 ≤ _; omega))
        simp only [laws_FnNameBuilt.j1]; rw [if_neg (by simp)]
        rfl
      refine Ev.bind (f := fun k t117 => if t117 = true then if 0 < (name.size : Int) then laws_FnNameBuilt.j1 k l name ext ((bt name 0) == 46) else none else laws_FnNameBuilt.j1 k l name ext false) hd4 ?_
      cases d4 with
      | false => simp only [Bool.false_eq_true, if_false]; exact j1f
      | true =>
        simp only [if_true, if_pos hne]
        cases (bt name 0) == 46 with
        | true => exact j1t
        | false => exact j1f
  obtain ⟨k, hk⟩ := key
  exact ⟨k, hk k (Nat.le_refl _)⟩
end Go.Proofs.YtgcadmofjblaeaaDoor.Pure
