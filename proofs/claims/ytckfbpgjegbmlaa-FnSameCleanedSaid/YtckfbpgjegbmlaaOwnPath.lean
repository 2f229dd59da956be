/- What path.Clean, filepath.Clean and filepath.Join answer, by the library's contracts: paths shorter than 2^48 bytes. -/
import Derived.Test.YtckfbpgjegbmlaaShelfClean
import Derived.Test.YtckfbpgjegbmlaaTrim0
import Derived.Test.YtckfbpgjegbmlaaWMore
set_option linter.unusedVariables false
namespace Go.Proofs.Ytckfbpgjegbmlaa
open Go.RowKit Go.Proofs.YtckfbpgjegbmlaaW.PrintWords Go.Proofs.Ytckfbpgjegbmlaa.Lib0 Go.Proofs.Ytckfbpgjegbmlaa.Trim0

def path_Clean.f (a0 : ByteArray) : Option ByteArray := if a0.size ≤ 281474976710656 then some (ofL (Lib.Pa.cleanEls a0.data.toList)) else none
theorem path_Clean.calls (a0 : ByteArray) (r : ByteArray) (w : World) (h : path_Clean.f a0 = some r) :
    Calls Try.prog 53 #[.string a0] w fun e w' => e = .returned (.string r) ∧ Below w.heap.size w w' := by
  unfold path_Clean.f at h
  split at h
  · rename_i hs
    cases h
    exact Try.path_Clean_rules a0 w hs
  · cases h

def filepath_Clean.f (a0 : ByteArray) : Option ByteArray := if a0.size ≤ 281474976710656 then some (ofL (Lib.Pa.cleanEls a0.data.toList)) else none
theorem filepath_Clean.calls (a0 : ByteArray) (r : ByteArray) (w : World) (h : filepath_Clean.f a0 = some r) :
    Calls Try.prog 56 #[.string a0] w fun e w' => e = .returned (.string r) ∧ Below w.heap.size w w' := by
  unfold filepath_Clean.f at h
  split at h
  · rename_i hs
    cases h
    exact Try.filepath_Clean_rules a0 w hs
  · cases h

def filepath_Join.f (l0 : List ByteArray) : Option ByteArray :=
  if l0 ≠ [] ∧ Lib.lens (l0.map (·.data.toList)) + l0.length ≤ 140737488355328 then some (ofL (Lib.Pa.join (l0.map (·.data.toList)))) else none
theorem filepath_Join.calls (A0 : Option Addr) (c0 : Nat) (l0 : List ByteArray) (r : ByteArray) (w : World) (hr0 : Kd.C Kd.string w A0 l0.length l0) (hc0 : l0.length ≤ c0) (h : filepath_Join.f l0 = some r) :
    Calls Try.prog 57 #[.slice A0 l0.length c0] w fun e w' => e = .returned (.string r) ∧ Below w.heap.size w w' := by
  unfold filepath_Join.f at h
  split at h
  · rename_i hs
    obtain ⟨hne, hlen⟩ := hs
    cases h
    have hp : 0 < l0.length := List.length_pos_iff.2 hne
    have R := Kd.reads_of_C (d := ByteArray.empty) hr0
    obtain ⟨ad, rfl, hc⟩ := R.2.2 hp
    obtain ⟨bk, o, sp⟩ := ad
    have c0' := hc 0 hp
    have hsp : sp = none := by simpa [Addr.add] using World.cell?_spot c0'
    subst hsp
    refine Try.filepath_Join_rules bk o c0 l0 w (fun j x hx => ?_) ?_ hc0 hlen
    · have hj : j < l0.length := (List.getElem?_eq_some_iff.1 hx).1
      have := hc j hj
      rw [Addr.add_lit] at this
      rw [this]
      have e : l0.getD j ByteArray.empty = x := by simp [List.getD, hx]
      rw [e]
    · have := World.block_lt_of_cell? w _ c0'
      simpa [Addr.add] using this
  · cases h

end Go.Proofs.Ytckfbpgjegbmlaa
