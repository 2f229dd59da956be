/- FnDirJoined, the plain law: a path's directory and its last element, with a slash between, are the path, for all folders and last elements. -/
import Derived.Test.YtelijbnnhgmklaaPFnDirJoinedx2
import Derived.Test.YtelijbnnhgmklaaDir0FnDirJoined
import Derived.Test.YtelijbnnhgmklaaHas0FnDirJoined
import Derived.Test.YtelijbnnhgmklaaFits0FnDirJoined
namespace Go.Proofs.Ytelijbnnhgmklaa.Pure
open Go.RowKit Go.Proofs.Ytelijbnnhgmklaa.PFnDirJoined Go.Proofs.YtelijbnnhgmklaaW.PrintWords Go.Proofs.YtelijbnnhgmklaaW.PrintLast Go.Proofs.Ytelijbnnhgmklaa.Lib0 Go.Proofs.Ytelijbnnhgmklaa.Dir0FnDirJoined Go.Proofs.Ytelijbnnhgmklaa.Has0FnDirJoined Go.Proofs.Ytelijbnnhgmklaa.Fits0FnDirJoined

def sl : ByteArray := ⟨#[47]⟩
theorem sl_size : sl.size = 1 := rfl
theorem sl_bt : bt sl 0 = 47 := by rw [bt_list]; rfl

theorem dir_join (p q : ByteArray) (hz : p.size + q.size ≤ 140737488361000) (hq : ∀ j, ¬ HasAt q sl j) :
    Ev (fun k => impl_Dir.f k ((p ++ sl) ++ q)) (if 0 < p.size then p else sl) := by
  have z1 : (p ++ sl).size = p.size + 1 := by rw [app_size, sl_size]
  have z : ((p ++ sl) ++ q).size = p.size + 1 + q.size := by rw [app_size, z1]
  have hl : IsLast ((p ++ sl) ++ q) 47 ((((p ++ sl) ++ q).size : Int) - 1) p.size := by
    refine ⟨by omega, by omega, fun j h1 h2 => ?_, fun _ => ?_⟩
    · rw [bt_app_right _ _ _ (by omega)]
      intro h
      refine hq (j - (p ++ sl).size).toNat ?_
      show HasAt q ⟨#[47]⟩ _
      rw [hasAt_byte]
      refine ⟨by omega, ?_⟩
      rw [show (((j - ((p ++ sl).size : Int)).toNat : Nat) : Int) = j - ((p ++ sl).size : Int) by omega]
      exact h
    · rw [bt_app_left _ _ _ (by omega) (by omega), bt_app_right _ _ _ (by omega)]
      rw [show ((p.size : Int) - (p.size : Int)) = 0 by omega]; exact sl_bt
  have h := dir_at _ (by omega) _ hl
  by_cases h0 : 0 < p.size
  · rw [if_pos (by omega)] at h
    rw [if_pos h0]
    have : ((p ++ sl) ++ q).extract 0 ((p.size : Int)).toNat = p := by
      apply bytes_ext
      rw [data_ext, data_app, data_app, show ((p.size : Int)).toNat = p.data.toList.length by rw [size_len]; omega]
      simp
    rw [this] at h
    exact h
  · rw [if_neg (by omega)] at h
    rw [if_neg h0]
    have e : p.data.toList = [] := List.eq_nil_of_length_eq_zero (by rw [size_len]; omega)
    have : ((p ++ sl) ++ q).extract 0 ((p.size : Int) + 1).toNat = sl := by
      apply bytes_ext
      rw [data_ext, data_app, data_app, e, show ((p.size : Int) + 1).toNat = 1 by omega]
      rfl
    rw [this] at h
    exact h

theorem sl_lit : (⟨#[47]⟩ : ByteArray) = sl := rfl

theorem dj_final (s last : ByteArray) (h0 : 0 < s.size) (hz : s.size ≤ 100000000) (hq : last.size ≤ 1000) (hn : ∀ j, ¬ HasAt last sl j) (l : List ByteArray) (i : Int) (hi : ¬ i < (l.length : Int)) :
    Ev (fun k => laws_FnDirJoined.l0 k last s l (l.length : Int) i) true := by
  have z1 : (s ++ sl).size = s.size + 1 := by rw [app_size, sl_size]
  have z2 : (sl ++ s).size = 1 + s.size := by rw [app_size, sl_size]
  have z3 : ((sl ++ s) ++ sl).size = 1 + s.size + 1 := by rw [app_size, z2, sl_size]
  refine Ev.step (f := fun k => (impl_Dir.f k ((s ++ sl) ++ last)).bind fun t108 => if t108.toList = s.toList then (impl_Dir.f k (((sl ++ s) ++ sl) ++ last)).bind fun t109 => if t109.toList = (sl ++ s).toList then (impl_Dir.f k (sl ++ last)).bind fun t110 => some (t110.toList == ([47] : List UInt8)) else some false else some false) (fun k => ?_) ?_
  · have b1 : s.size + 1 ≤ 9223372036854775807 := by omega
    have b2 : (s ++ sl).size + last.size ≤ 9223372036854775807 := by omega
    have b3 : 1 + s.size ≤ 9223372036854775807 := by omega
    have b4 : (sl ++ s).size + 1 ≤ 9223372036854775807 := by omega
    have b5 : ((sl ++ s) ++ sl).size + last.size ≤ 9223372036854775807 := by omega
    have b6 : 1 + last.size ≤ 9223372036854775807 := by omega
    simp only [laws_FnDirJoined.l0, sl_lit, if_neg hi, if_pos b1, if_pos b2, if_pos b3, if_pos b4, if_pos b5, if_pos b6]
  have a := dir_join s last (by omega) hn
  rw [if_pos h0] at a
  have b := dir_join (sl ++ s) last (by omega) hn
  rw [if_pos (by omega)] at b
  have c := dir_join ByteArray.empty last (by simp; omega) hn
  rw [if_neg (by simp)] at c
  have e : (ByteArray.empty ++ sl) ++ last = sl ++ last := by
    apply bytes_ext
    simp
  rw [e] at c
  refine Ev.bind (f := fun k t108 => if t108.toList = s.toList then (impl_Dir.f k (((sl ++ s) ++ sl) ++ last)).bind fun t109 => if t109.toList = (sl ++ s).toList then (impl_Dir.f k (sl ++ last)).bind fun t110 => some (t110.toList == ([47] : List UInt8)) else some false else some false) a ?_
  simp only [if_true]
  refine Ev.bind (f := fun k t109 => if t109.toList = (sl ++ s).toList then (impl_Dir.f k (sl ++ last)).bind fun t110 => some (t110.toList == ([47] : List UInt8)) else some false) b ?_
  simp only [if_true]
  refine Ev.bind (f := fun k t110 => some (t110.toList == ([47] : List UInt8))) c ?_
  have : (sl.toList == ([47] : List UInt8)) = true := by rw [list_eq]; rfl
  simp only [this]
  exact Ev.now _

theorem nonnil {s : ByteArray} (h : ¬ s.toList = ([] : List UInt8)) : 0 < s.size := by
  rcases Nat.eq_zero_or_pos s.size with z | z
  · exfalso; apply h
    rw [list_eq]
    exact List.eq_nil_of_length_eq_zero (by rw [size_len]; exact z)
  · exact z

theorem dj_loop (l : List ByteArray) (last : ByteArray) (hl : l.length ≤ 50) (h1 : 1 ≤ l.length) (hq : last.size ≤ 1000) (hn : ∀ j, ¬ HasAt last sl j) (hs : ∀ i : Int, (rdOf ByteArray.empty l i).size ≤ 140737488351232) :
    ∀ (d i : Nat) (s : ByteArray), l.length - i = d → i ≤ l.length → s.size ≤ 1001 * i → (0 < i → 0 < s.size) → Ev (fun k => laws_FnDirJoined.l0 k last s l (l.length : Int) i) true := by
  intro d
  induction d with
  | zero =>
    intro i s hd hi hz hp
    exact dj_final s last (hp (by omega)) (by omega) hq hn l i (by omega)
  | succ d ih =>
    intro i s hd hi hz hp
    have hg := hs (i : Int)
    generalize hg' : rdOf ByteArray.empty l (i : Int) = g at hg
    have out : ∀ k, laws_FnDirJoined.j3 (k + 1) last s (i : Int) g l (l.length : Int) (i : Int) true = some true := fun k => by simp only [laws_FnDirJoined.j3]; rw [if_pos trivial]
    have out' : Ev (fun k => laws_FnDirJoined.j3 k last s (i : Int) g l (l.length : Int) (i : Int) true) true := Ev.step out (Ev.now _)
    by_cases g0 : g.toList = ([] : List UInt8)
    · refine Ev.step (fun k => ?_) out'
      simp only [laws_FnDirJoined.l0, hg']; rw [if_pos (by omega), if_pos (by omega), if_pos (by omega), if_pos g0]
    have gp := nonnil g0
    obtain ⟨b, hb, ht, hf⟩ := has_tells g sl (by omega) (by rw [sl_size]; omega)
    refine Ev.step (f := fun k => (laws_has.f k g sl).bind fun t112 => if t112 = true then laws_FnDirJoined.j3 k last s (i : Int) g l (l.length : Int) (i : Int) true else laws_FnDirJoined.j3 k last s (i : Int) g l (l.length : Int) (i : Int) (decide ((g.size : Int) > 1000))) (fun k => ?_) ?_
    · simp only [laws_FnDirJoined.l0, hg']; rw [if_pos (by omega), if_pos (by omega), if_pos (by omega), if_neg g0]; rfl
    refine Ev.bind (f := fun k t112 => if t112 = true then laws_FnDirJoined.j3 k last s (i : Int) g l (l.length : Int) (i : Int) true else laws_FnDirJoined.j3 k last s (i : Int) g l (l.length : Int) (i : Int) (decide ((g.size : Int) > 1000))) hb ?_
    cases b with
    | true => simp only [if_true]; exact out'
    | false =>
      simp only [Bool.false_eq_true, if_false]
      by_cases gz : (g.size : Int) > 1000
      · rw [decide_eq_true gz]; exact out'
      rw [decide_eq_false gz]
      by_cases hi0 : (i : Int) > 0
      · have z : ((s ++ sl) ++ g).size = s.size + 1 + g.size := by rw [app_size, app_size, sl_size]
        have z' : (s ++ sl).size = s.size + 1 := by rw [app_size, sl_size]
        have := ih (i + 1) ((s ++ sl) ++ g) (by omega) (by omega) (by omega) (by omega)
        refine Ev.step (fun k => ?_) this
        have b1 : s.size + 1 ≤ 9223372036854775807 := by omega
        have b2 : (s ++ sl).size + g.size ≤ 9223372036854775807 := by omega
        have b3 : wrap64 ((i : Int) + 1) = ((i + 1 : Nat) : Int) := by rw [wrap_id _ (by omega)]; rfl
        simp only [laws_FnDirJoined.j3, sl_lit, Bool.false_eq_true, if_false, if_pos hi0, if_pos b1, if_pos b2, b3]
      · have z : (s ++ g).size = s.size + g.size := app_size _ _
        have := ih (i + 1) (s ++ g) (by omega) (by omega) (by omega) (by omega)
        refine Ev.step (fun k => ?_) this
        have b1 : s.size + g.size ≤ 9223372036854775807 := by omega
        have b3 : wrap64 ((i : Int) + 1) = ((i + 1 : Nat) : Int) := by rw [wrap_id _ (by omega)]; rfl
        simp only [laws_FnDirJoined.j3, Bool.false_eq_true, if_false, if_neg hi0, if_pos b1, b3]

theorem FnDirJoined (l : List ByteArray) (last : ByteArray) (hl : l.length ≤ 8796093022208) (hlast : last.size ≤ 140737488351232) :
    ∃ k, laws_FnDirJoined.f k l last = some true := by
  refine Ev.rounds ?_
  have j0t : Ev (fun k => laws_FnDirJoined.j0 k l last true) true := Ev.step (f := fun _ => some true) (fun k => by simp only [laws_FnDirJoined.j0]; rw [if_pos trivial]) (Ev.now _)
  have j1t : Ev (fun k => laws_FnDirJoined.j1 k l last true) true := Ev.step (f := fun _ => some true) (fun k => by simp only [laws_FnDirJoined.j1]; rw [if_pos trivial]) (Ev.now _)
  obtain ⟨b, hb, hsh⟩ := fits_tells l hl
  refine Ev.congr (f := fun k => (laws_zzFits3.f k l).bind fun t106 => if t106 = true then laws_FnDirJoined.j0 k l last (decide ((last.size : Int) > 2147483647)) else laws_FnDirJoined.j0 k l last true) (fun k => by unfold laws_FnDirJoined.f; rfl) ?_
  refine Ev.bind (f := fun k t106 => if t106 = true then laws_FnDirJoined.j0 k l last (decide ((last.size : Int) > 2147483647)) else laws_FnDirJoined.j0 k l last true) hb ?_
  cases b with
  | false => simp only [Bool.false_eq_true, if_false]; exact j0t
  | true =>
    have hs : ∀ i : Int, (rdOf ByteArray.empty l i).size ≤ 140737488351232 := fun i => by have := (hsh rfl).2 i; omega
    simp only [if_true]
    by_cases h1 : (last.size : Int) > 2147483647
    · rw [decide_eq_true h1]; exact j0t
    rw [decide_eq_false h1]
    by_cases c1 : (l.length : Int) < 1
    · refine Ev.step (fun k => ?_) j1t
      simp only [laws_FnDirJoined.j0]; rw [if_neg (by simp), if_pos c1]
    by_cases c2 : (l.length : Int) > 50
    · refine Ev.step (fun k => ?_) j1t
      simp only [laws_FnDirJoined.j0]; rw [if_neg (by simp), if_neg c1, if_pos c2]
    by_cases c3 : last.toList = ([] : List UInt8)
    · refine Ev.step (fun k => ?_) j1t
      simp only [laws_FnDirJoined.j0]; rw [if_neg (by simp), if_neg c1, if_neg c2, if_pos c3]
    obtain ⟨b, hb, ht, hf⟩ := has_tells last sl (by omega) (by rw [sl_size]; omega)
    refine Ev.step (f := fun k => (laws_has.f k last sl).bind fun t107 => if t107 = true then laws_FnDirJoined.j1 k l last true else laws_FnDirJoined.j1 k l last (decide ((last.size : Int) > 1000))) (fun k => ?_) ?_
    · simp only [laws_FnDirJoined.j0]; rw [if_neg (by simp), if_neg c1, if_neg c2, if_neg c3]; rfl
    refine Ev.bind (f := fun k t107 => if t107 = true then laws_FnDirJoined.j1 k l last true else laws_FnDirJoined.j1 k l last (decide ((last.size : Int) > 1000))) hb ?_
    cases b with
    | true => simp only [if_true]; exact j1t
    | false =>
      simp only [Bool.false_eq_true, if_false]
      by_cases h2 : (last.size : Int) > 1000
      · rw [decide_eq_true h2]; exact j1t
      rw [decide_eq_false h2]
      have hn := hf rfl
      have := dj_loop l last (by omega) (by omega) (by omega) hn hs l.length 0 ByteArray.empty (by omega) (by omega) (by simp) (by omega)
      refine Ev.step (fun k => ?_) this
      simp only [laws_FnDirJoined.j1]; rw [if_neg (by simp)]
      rfl

end Go.Proofs.Ytelijbnnhgmklaa.Pure
