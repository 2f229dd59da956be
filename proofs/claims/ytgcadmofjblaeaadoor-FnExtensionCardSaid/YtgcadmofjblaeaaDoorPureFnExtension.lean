/- FnExtension, the plain law: an extension without its delimiter is the extension without its point, and the functions of a file agree with it; for every text. -/
import Derived.Test.YtgcadmofjblaeaaDoorPFnExtensionx1
import Derived.Test.YtgcadmofjblaeaaDoorExt0
import Derived.Test.YtgcadmofjblaeaaDoorHas0FnExtension
set_option linter.unusedVariables false
namespace Go.Proofs.YtgcadmofjblaeaaDoor.Pure
open Go.RowKit Go.Lib Go.Proofs.YtgcadmofjblaeaaDoor.PFnExtension Go.Proofs.YtgcadmofjblaeaaDoorW.PrintWords Go.Proofs.YtgcadmofjblaeaaDoorW.PrintLast Go.Proofs.YtgcadmofjblaeaaDoor.Lib0 Go.Proofs.YtgcadmofjblaeaaDoor.Ext0 Go.Proofs.YtgcadmofjblaeaaDoor.Has0FnExtension

def bare (s : ByteArray) : ByteArray := ⟨(Lib.trimPrefix (Pa.ext s.data.toList) [46]).toArray⟩
def dot : ByteArray := ⟨#[46]⟩
theorem dot_size : dot.size = 1 := rfl
theorem dot_list : dot.toList = [46] := by rw [list_eq]; rfl

theorem trim_f (t : ByteArray) : strings_TrimPrefix.f t dot = some ⟨(Lib.trimPrefix t.data.toList [46]).toArray⟩ := by
  unfold strings_TrimPrefix.f stringslite_TrimPrefix.f stringslite_HasPrefix.f
  rw [dot_size, dot_list]
  have hz := size_len t
  have hl := list_eq t
  have he0 : ∀ n, (t.extract 0 n).toList = t.data.toList.take n := fun n => by rw [list_ext, hl]; simp
  have he1 : (t.extract 1 t.size).data.toList = t.data.toList.drop 1 := by rw [data_ext, ← hz, List.take_length]
  rw [show (((1 : Nat) : Int)).toNat = 1 from rfl, he0]
  generalize hr : t.extract 1 t.size = r at he1
  revert hz he1
  generalize hd : t.data.toList = l
  intro hz he1
  cases l with
  | nil =>
    rw [← hz]
    simp only [List.length_nil]
    rw [if_neg (by omega)]
    simp only [Option.bind_some]
    rw [if_neg (by simp)]
    simp only [Option.bind_some]
    congr 1
    apply bytes_ext
    rw [hd]; rfl
  | cons b q =>
    rw [← hz]
    simp only [List.length_cons]
    rw [if_pos (by omega), if_pos (by omega), if_pos (by omega)]
    simp only [Option.bind_some]
    by_cases hb : b = 46
    · subst hb
      rw [if_pos (by simp), if_pos (by omega), if_pos (by omega)]
      simp only [Option.bind_some]
      congr 1
      apply bytes_ext
      rw [he1]
      rfl
    · rw [if_neg (by simpa using hb)]
      simp only [Option.bind_some]
      congr 1
      apply bytes_ext
      rw [hd]
      unfold Lib.trimPrefix Lib.hasPrefix
      rw [if_neg (by simpa [List.isPrefixOf] using fun e => hb e.symm)]

theorem ext_f (s : ByteArray) (hs : s.size ≤ 140737488351232) : impl_Ext.f s = some (extB s) := by
  obtain ⟨n, hn⟩ := fae_tells s hs
  unfold impl_Ext.f paths_Ext.f
  rw [hn]; rfl
theorem bare_f (s : ByteArray) (hs : s.size ≤ 140737488351232) : impl_ExtNoDelimiter.f s = some (bare s) := by
  obtain ⟨n, hn⟩ := fae_tells s hs
  unfold impl_ExtNoDelimiter.f paths_ExtNoDelimiter.f paths_Ext.f
  rw [hn]
  simp only [Option.bind_some]
  rw [show (⟨#[46]⟩ : ByteArray) = dot from rfl, trim_f]
  rfl
theorem file_f (s : ByteArray) (hs : s.size ≤ 140737488351232) : ∃ n, impl_FileAndExt.f s = some (n, extB s) := by
  obtain ⟨n, hn⟩ := fae_tells s hs
  refine ⟨n, ?_⟩
  unfold impl_FileAndExt.f paths_FileAndExt.f
  rw [hn]; rfl
theorem path_f (s : ByteArray) (hs : s.size ≤ 140737488351232) : ∃ n, impl_PathAndExt.f s = some (n, extB s) := by
  obtain ⟨n, hn⟩ := fae_tells s hs
  refine ⟨n, ?_⟩
  unfold impl_PathAndExt.f paths_PathAndExt.f
  rw [hn]; rfl
theorem filebare_f (s : ByteArray) (hs : s.size ≤ 140737488351232) : ∃ n, impl_FileAndExtNoDelimiter.f s = some (n, bare s) := by
  obtain ⟨n, hn⟩ := fae_tells s hs
  refine ⟨n, ?_⟩
  unfold impl_FileAndExtNoDelimiter.f paths_FileAndExtNoDelimiter.f
  rw [hn]; rfl

theorem byte_inj (a b : UInt8) (h : (a.toNat : Int) = (b.toNat : Int)) : a = b := UInt8.toNat_inj.1 (by omega)

theorem no_byte (t : ByteArray) (c : UInt8) (h : c ∉ t.data.toList) (j : Nat) : ¬ HasAt t ⟨#[c]⟩ j := by
  rw [hasAt_byte]
  rintro ⟨h1, h2⟩
  have h' : j < t.data.toList.length := by rw [size_len]; exact h1
  rw [bt_list, show ((j : Int)).toNat = j from rfl, getD_in _ _ _ h'] at h2
  exact h (by rw [← byte_inj _ _ h2]; exact List.getElem_mem h')

theorem has_no (t : ByteArray) (c : UInt8) (ht : t.size ≤ 140737488351232) (h : c ∉ t.data.toList) : Ev (fun k => laws_has.f k t ⟨#[c]⟩) false := by
  obtain ⟨b, hb, h1, _⟩ := has_tells t ⟨#[c]⟩ (by omega) (by have : (⟨#[c]⟩ : ByteArray).size = 1 := rfl; omega)
  cases b with
  | false => exact hb
  | true => obtain ⟨j, hj⟩ := h1 rfl; exact absurd hj (no_byte t c h j)

theorem FnExtension : laws_FnExtension.Pure := by
  intro s hs
  have key : Ev (fun k => laws_FnExtension.f k s) true := by
    unfold laws_FnExtension.f
    by_cases g : (s.size : Int) > 2147483647
    · simp only [if_pos g]; exact Ev.now _
    simp only [if_neg g]
    have h0 := ext_f ⟨#[97, 46, 98]⟩ (by decide)
    have h00 : (extB ⟨#[97, 46, 98]⟩).toList = [46, 98] := by
      unfold extB; rw [mk_list]; decide
    rw [h0]
    simp only [Option.bind_some, if_pos h00]
    by_cases g2 : (s.size : Int) > 65536
    · simp only [if_pos g2]; exact Ev.now _
    simp only [if_neg g2]
    obtain ⟨n1, f1⟩ := file_f s hs
    obtain ⟨n2, f2⟩ := filebare_f s hs
    obtain ⟨n3, f3⟩ := path_f s hs
    rw [ext_f s hs, bare_f s hs, f1, f2, f3]
    simp only [Option.bind_some]
    have hx : (extB s).toList = Pa.ext s.data.toList := mk_list _
    have hb : (bare s).toList = Lib.trimPrefix (Pa.ext s.data.toList) [46] := mk_list _
    rcases ext_tells s.data.toList with ⟨he, _⟩ | ⟨p, d, _, he, h46, h47⟩
    · rw [he] at hx hb
      have hb' : (bare s).toList = [] := hb
      simp only [if_pos hx, if_pos hb', hx]
      exact Ev.now _
    · rw [he] at hx hb
      have hb' : (bare s).toList = d := hb
      have hxd : (extB s).data.toList = 46 :: d := by rw [← list_eq]; exact hx
      have hbd : (bare s).data.toList = d := by rw [← list_eq]; exact hb'
      have hz : (extB s).size = d.length + 1 := by rw [← size_len, hxd]; rfl
      have hbz : (bare s).size = d.length := by rw [← size_len, hbd]
      have hdl : d.length ≤ s.size := by
        have : (Pa.ext s.data.toList).length ≤ s.data.toList.length := by
          have hq : Pa.ext s.data.toList = if 0 ≤ Pa.lastIndexByte (tailL s.data.toList) 46 then (tailL s.data.toList).drop (Pa.lastIndexByte (tailL s.data.toList) 46).toNat else [] := rfl
          rw [hq]
          split
          · rw [tail_drop, List.length_drop, List.length_drop]; omega
          · simp
        rw [he, size_len] at this
        simp at this; omega
      have hne : (extB s).toList ≠ [] := by rw [hx]; simp
      have hbt : bt (extB s) 0 = 46 := by rw [bt_list, hxd]; rfl
      have hex : (bare s).toList = ((extB s).extract 1 (extB s).size).toList := by
        rw [hb', list_ext, hx, hz]; simp
      simp only [if_neg hne, if_pos (show 0 < ((extB s).size : Int) by omega), if_pos hbt, if_pos (show 1 ≤ ((extB s).size : Int) by omega), if_pos hex]
      simp only [if_true]
      refine Ev.bind (f := fun k t122 => if t122 = true then some false else (laws_has.f k (bare s) (⟨#[47]⟩ : ByteArray)).bind fun t123 => some (!t123)) (has_no (bare s) 46 (by omega) (by rw [hbd]; exact h46)) ?_
      simp only [Bool.false_eq_true, if_false]
      refine Ev.bind (f := fun k t123 => some (!t123)) (has_no (bare s) 47 (by omega) (by rw [hbd]; exact h47)) ?_
      exact Ev.now _
  obtain ⟨k, hk⟩ := key
  exact ⟨k, hk k (Nat.le_refl _)⟩
end Go.Proofs.YtgcadmofjblaeaaDoor.Pure
