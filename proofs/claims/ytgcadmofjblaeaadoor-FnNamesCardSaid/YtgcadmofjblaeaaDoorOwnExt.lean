/- What the functions of a path's name and extension answer: the two bridges' methods, paths.fileAndExt over either, and its callers. -/
import Derived.Test.YtgcadmofjblaeaaDoorPLib5x
import Derived.Test.YtgcadmofjblaeaaDoorOwnLast
import Derived.WalkKit
import Derived.Outline
import Derived.BigQuiet
set_option linter.unusedVariables false
namespace Go.Proofs.YtgcadmofjblaeaaDoor
open Go.RowKit Go.Lib Go.Proofs.YtgcadmofjblaeaaDoorW.PrintWords Go.Proofs.YtgcadmofjblaeaaDoor.Lib0

def extB (s : ByteArray) : ByteArray := ⟨(Lib.Pa.ext s.data.toList).toArray⟩
def baseB (s : ByteArray) : ByteArray := ⟨(Lib.Pa.base s.data.toList).toArray⟩

theorem fp_Ext (s : ByteArray) (w : World) (hs : s.size ≤ 9223372036854775807) :
    Calls Tryd.prog 53 #[.agg #[], .string s] w fun e w' => e = .returned (.string (extB s)) ∧ Below w.heap.size w w' := by
  go_enter Tryd.func53, Tryd.ntmps53
  go_wp2_with (first | (go_at_call 56; refine (Tryd.filepath_Ext s _ hs).mono ?_; rintro e w' ⟨rfl, rfl⟩))
  go_ret
  exact ⟨rfl, by repeat (first | exact Below.refl _ _ | apply below_alloc | apply pw_below_drewN | apply below_drew1)⟩
theorem fp_Base (s : ByteArray) (w : World) (hs : s.size ≤ 9223372036854775807) :
    Calls Tryd.prog 52 #[.agg #[], .string s] w fun e w' => e = .returned (.string (baseB s)) ∧ Below w.heap.size w w' := by
  go_enter Tryd.func52, Tryd.ntmps52
  go_wp2_with (first | (go_at_call 55; refine (Tryd.filepath_Base s _ hs).mono ?_; rintro e w' ⟨rfl, rfl⟩))
  go_ret
  exact ⟨rfl, by repeat (first | exact Below.refl _ _ | apply below_alloc | apply pw_below_drewN | apply below_drew1)⟩
theorem fp_Sep (w : World) :
    Calls Tryd.prog 54 #[.agg #[]] w fun e w' => e = .returned (.string ⟨#[47]⟩) ∧ Below w.heap.size w w' := by
  go_enter Tryd.func54, Tryd.ntmps54
  go_wp2
  go_ret
  exact ⟨rfl, by repeat (first | exact Below.refl _ _ | apply below_alloc | apply pw_below_drewN | apply below_drew1)⟩
theorem p_Ext (s : ByteArray) (w : World) (hs : s.size ≤ 9223372036854775807) :
    Calls Tryd.prog 67 #[.agg #[], .string s] w fun e w' => e = .returned (.string (extB s)) ∧ Below w.heap.size w w' := by
  go_enter Tryd.func67, Tryd.ntmps67
  go_wp2_with (first | (go_at_call 70; refine (Tryd.path_Ext s _ hs).mono ?_; rintro e w' ⟨rfl, rfl⟩))
  go_ret
  exact ⟨rfl, by repeat (first | exact Below.refl _ _ | apply below_alloc | apply pw_below_drewN | apply below_drew1)⟩
theorem p_Base (s : ByteArray) (w : World) (hs : s.size ≤ 9223372036854775807) :
    Calls Tryd.prog 66 #[.agg #[], .string s] w fun e w' => e = .returned (.string (baseB s)) ∧ Below w.heap.size w w' := by
  go_enter Tryd.func66, Tryd.ntmps66
  go_wp2_with (first | (go_at_call 69; refine (Tryd.path_Base s _ hs).mono ?_; rintro e w' ⟨rfl, rfl⟩))
  go_ret
  exact ⟨rfl, by repeat (first | exact Below.refl _ _ | apply below_alloc | apply pw_below_drewN | apply below_drew1)⟩
theorem p_Sep (w : World) :
    Calls Tryd.prog 68 #[.agg #[]] w fun e w' => e = .returned (.string ⟨#[47]⟩) ∧ Below w.heap.size w w' := by
  go_enter Tryd.func68, Tryd.ntmps68
  go_wp2
  go_ret
  exact ⟨rfl, by repeat (first | exact Below.refl _ _ | apply below_alloc | apply pw_below_drewN | apply below_drew1)⟩

theorem m1 (w : World) : Sem.run Tryd.prog (method 165 33 (Value.agg #[]) "Ext") w = .ok (53, .agg #[]) w := by kernel_rfl
theorem m2 (w : World) : Sem.run Tryd.prog (method 165 33 (Value.agg #[]) "Base") w = .ok (52, .agg #[]) w := by kernel_rfl
theorem m3 (w : World) : Sem.run Tryd.prog (method 165 33 (Value.agg #[]) "Separator") w = .ok (54, .agg #[]) w := by kernel_rfl
theorem m4 (w : World) : Sem.run Tryd.prog (method 165 35 (Value.agg #[]) "Ext") w = .ok (67, .agg #[]) w := by kernel_rfl
theorem m5 (w : World) : Sem.run Tryd.prog (method 165 35 (Value.agg #[]) "Base") w = .ok (66, .agg #[]) w := by kernel_rfl
theorem m6 (w : World) : Sem.run Tryd.prog (method 165 35 (Value.agg #[]) "Separator") w = .ok (68, .agg #[]) w := by kernel_rfl
attribute [local go_sem] m1 m2 m3 m4 m5 m6
def fae (k : Nat) (s : ByteArray) : Option (ByteArray × ByteArray) :=
  if s.size < 4611686018427387904 then (PLib5.paths_extractFilename.f k s (extB s) (baseB s) ⟨#[47]⟩).bind fun n => some (n, extB s) else none

theorem fp_fae (k : Nat) (s : ByteArray) (r1 r2 : ByteArray) (w : World) (h : fae k s = some (r1, r2)) :
    Calls Tryd.prog 28 #[.string s, .iface 33 (.agg #[])] w fun e w' => e = .returned (.tuple #[.string r1, .string r2]) ∧ Below w.heap.size w w' := by
  unfold fae at h
  split at h
  · rename_i hs
    obtain ⟨n, hn, h⟩ := Option.bind_eq_some_iff.1 h
    cases h
    have hs' : s.size ≤ 9223372036854775807 := by omega
    go_enter Tryd.func28, Tryd.ntmps28
    go_wp2_with (first | (go_at_call 53; refine (fp_Ext s _ hs').mono ?_; rintro e w1 ⟨rfl, b1⟩) | (go_at_call 52; refine (fp_Base s _ hs').mono ?_; rintro e w2 ⟨rfl, b2⟩) | (go_at_call 54; refine (fp_Sep _).mono ?_; rintro e w3 ⟨rfl, b3⟩) | (go_at_call 30; refine (PLib5.paths_extractFilename.calls k s _ _ _ _ _ hn).mono ?_; rintro e w4 ⟨rfl, ⟨nd, rfl⟩⟩))
    go_ret2
    exact ⟨rfl, pw_below_drewN ((b1.trans (b2.mono b1.size)).trans (b3.mono (Nat.le_trans b1.size b2.size))) _⟩
  · cases h
theorem p_fae (k : Nat) (s : ByteArray) (r1 r2 : ByteArray) (w : World) (h : fae k s = some (r1, r2)) :
    Calls Tryd.prog 28 #[.string s, .iface 35 (.agg #[])] w fun e w' => e = .returned (.tuple #[.string r1, .string r2]) ∧ Below w.heap.size w w' := by
  unfold fae at h
  split at h
  · rename_i hs
    obtain ⟨n, hn, h⟩ := Option.bind_eq_some_iff.1 h
    cases h
    have hs' : s.size ≤ 9223372036854775807 := by omega
    go_enter Tryd.func28, Tryd.ntmps28
    go_wp2_with (first | (go_at_call 67; refine (p_Ext s _ hs').mono ?_; rintro e w1 ⟨rfl, b1⟩) | (go_at_call 66; refine (p_Base s _ hs').mono ?_; rintro e w2 ⟨rfl, b2⟩) | (go_at_call 68; refine (p_Sep _).mono ?_; rintro e w3 ⟨rfl, b3⟩) | (go_at_call 30; refine (PLib5.paths_extractFilename.calls k s _ _ _ _ _ hn).mono ?_; rintro e w4 ⟨rfl, ⟨nd, rfl⟩⟩))
    go_ret2
    exact ⟨rfl, pw_below_drewN ((b1.trans (b2.mono b1.size)).trans (b3.mono (Nat.le_trans b1.size b2.size))) _⟩
  · cases h

def paths_Ext.f (a0 : ByteArray) : Option ByteArray := (fae 2 a0).bind fun p => some (p.2)
theorem paths_Ext.calls (a0 : ByteArray) (r : ByteArray) (w : World) (h : paths_Ext.f a0 = some r) :
    Calls Tryd.prog 21 #[.string a0] w fun e w' => e = .returned (.string r) ∧ Below w.heap.size w w' := by
  obtain ⟨⟨n, x⟩, hn, h⟩ := Option.bind_eq_some_iff.1 h
  cases h
  go_enter Tryd.func21, Tryd.ntmps21
  go_wp2_with (first | (go_at_call 28; refine (fp_fae 2 a0 _ _ _ hn).mono ?_; rintro e w1 ⟨rfl, b1⟩))
  go_ret
  exact ⟨rfl, b1⟩

def paths_Filename.f (a0 : ByteArray) : Option ByteArray := (fae 2 a0).bind fun p => some (p.1)
theorem paths_Filename.calls (a0 : ByteArray) (r : ByteArray) (w : World) (h : paths_Filename.f a0 = some r) :
    Calls Tryd.prog 26 #[.string a0] w fun e w' => e = .returned (.string r) ∧ Below w.heap.size w w' := by
  obtain ⟨⟨n, x⟩, hn, h⟩ := Option.bind_eq_some_iff.1 h
  cases h
  go_enter Tryd.func26, Tryd.ntmps26
  go_wp2_with (first | (go_at_call 28; refine (fp_fae 2 a0 _ _ _ hn).mono ?_; rintro e w1 ⟨rfl, b1⟩))
  go_ret
  exact ⟨rfl, b1⟩

def paths_FileAndExt.f (a0 : ByteArray) : Option (ByteArray × ByteArray) := (fae 2 a0).bind fun p => some (p)
theorem paths_FileAndExt.calls (a0 : ByteArray) (r1 r2 : ByteArray) (w : World) (h : paths_FileAndExt.f a0 = some (r1, r2)) :
    Calls Tryd.prog 23 #[.string a0] w fun e w' => e = .returned (.tuple #[.string r1, .string r2]) ∧ Below w.heap.size w w' := by
  obtain ⟨⟨n, x⟩, hn, h⟩ := Option.bind_eq_some_iff.1 h
  cases h
  go_enter Tryd.func23, Tryd.ntmps23
  go_wp2_with (first | (go_at_call 28; refine (fp_fae 2 a0 _ _ _ hn).mono ?_; rintro e w1 ⟨rfl, b1⟩))
  go_ret2
  exact ⟨rfl, b1⟩

def paths_PathAndExt.f (a0 : ByteArray) : Option (ByteArray × ByteArray) := (fae 2 a0).bind fun p => some (p)
theorem paths_PathAndExt.calls (a0 : ByteArray) (r1 r2 : ByteArray) (w : World) (h : paths_PathAndExt.f a0 = some (r1, r2)) :
    Calls Tryd.prog 25 #[.string a0] w fun e w' => e = .returned (.tuple #[.string r1, .string r2]) ∧ Below w.heap.size w w' := by
  obtain ⟨⟨n, x⟩, hn, h⟩ := Option.bind_eq_some_iff.1 h
  cases h
  go_enter Tryd.func25, Tryd.ntmps25
  go_wp2_with (first | (go_at_call 28; refine (p_fae 2 a0 _ _ _ hn).mono ?_; rintro e w1 ⟨rfl, b1⟩))
  go_ret2
  exact ⟨rfl, b1⟩

def paths_FileAndExtNoDelimiter.f (a0 : ByteArray) : Option (ByteArray × ByteArray) := (fae 2 a0).bind fun p => some ((p.1, ⟨(Lib.trimPrefix p.2.data.toList [46]).toArray⟩))
theorem paths_FileAndExtNoDelimiter.calls (a0 : ByteArray) (r1 r2 : ByteArray) (w : World) (h : paths_FileAndExtNoDelimiter.f a0 = some (r1, r2)) :
    Calls Tryd.prog 24 #[.string a0] w fun e w' => e = .returned (.tuple #[.string r1, .string r2]) ∧ Below w.heap.size w w' := by
  obtain ⟨⟨n, x⟩, hn, h⟩ := Option.bind_eq_some_iff.1 h
  cases h
  go_enter Tryd.func24, Tryd.ntmps24
  go_wp2_with (first | (go_at_call 28; refine (fp_fae 2 a0 _ _ _ hn).mono ?_; rintro e w1 ⟨rfl, b1⟩) | (go_at_call 29; refine (Tryd.strings_TrimPrefix _ _ _).mono ?_; rintro e w2 ⟨rfl, rfl⟩))
  go_ret2
  exact ⟨rfl, b1⟩
end Go.Proofs.YtgcadmofjblaeaaDoor
