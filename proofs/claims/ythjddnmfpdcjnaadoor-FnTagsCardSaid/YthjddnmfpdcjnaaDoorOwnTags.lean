/- What strings.IndexByte, strings.EqualFold and strings.ToLower answer, by the library's contracts (the last two: of texts of ASCII). -/
import Derived.Test.YthjddnmfpdcjnaaDoorShelfTags
import Derived.Test.YthjddnmfpdcjnaaDoorWMore
import Derived.Test.YthjddnmfpdcjnaaDoorLib0
set_option linter.unusedVariables false
namespace Go.Proofs.YthjddnmfpdcjnaaDoor
open Go.RowKit Go.Proofs.YthjddnmfpdcjnaaDoorW.PrintWords Go.Proofs.YthjddnmfpdcjnaaDoor.Lib0

def strings_IndexByte.f (a0 : ByteArray) (a1 : Int) : Option Int := some (Lib.indexByte a0.data.toList a1.toNat.toUInt8)
theorem strings_IndexByte.calls (a0 : ByteArray) (a1 : Int) (r : Int) (w : World) (h : strings_IndexByte.f a0 a1 = some r) :
    Calls Tryd.prog 36 #[.string a0, .int .u8 a1] w fun e w' => e = .returned (.int .i64 r) ∧ Drawn0 w w' := by
  cases h
  refine (Tryd.strings_IndexByte a0 a1 w).mono ?_
  rintro e w' ⟨rfl, rfl⟩
  exact ⟨rfl, Drawn0.refl _⟩

def Ascii (s : ByteArray) : Prop := ∀ (j : Nat) (b : UInt8), s.data.toList[j]? = some b → b.toNat < 128
def asciiB (s : ByteArray) : Bool := s.data.toList.all fun b => decide (b.toNat < 128)
theorem asciiB_iff (s : ByteArray) : asciiB s = true ↔ Ascii s := by
  unfold asciiB Ascii
  rw [List.all_eq_true]
  constructor
  · intro h j b hj
    simpa using h b (List.mem_of_getElem? hj)
  · intro h b hb
    obtain ⟨j, hj⟩ := List.getElem?_of_mem hb
    simpa using h j b hj

def strings_EqualFold.f (a0 : ByteArray) (a1 : ByteArray) : Option Bool :=
  if a0.size < 4294967281 then (if asciiB a0 = true then (if asciiB a1 = true then some (Lib.equalFold a0.data.toList a1.data.toList) else none) else none) else none
theorem strings_EqualFold.calls (a0 : ByteArray) (a1 : ByteArray) (r : Bool) (w : World) (h : strings_EqualFold.f a0 a1 = some r) :
    Calls Tryd.prog 43 #[.string a0, .string a1] w fun e w' => e = .returned (.bool r) ∧ Drawn0 w w' := by
  unfold strings_EqualFold.f at h
  split at h
  · rename_i h1
    split at h
    · rename_i h2
      split at h
      · rename_i h3
        cases h
        refine (Tryd.strings_EqualFold a0 a1 w h1 ((asciiB_iff _).1 h2) ((asciiB_iff _).1 h3)).mono ?_
        rintro e w' ⟨rfl, rfl⟩
        exact ⟨rfl, Drawn0.refl _⟩
      · cases h
    · cases h
  · cases h

def strings_ToLower.f (a0 : ByteArray) : Option ByteArray :=
  if a0.size ≤ 140737488355328 then (if asciiB a0 = true then some ⟨(Lib.toLowerA a0.data.toList).toArray⟩ else none) else none
theorem strings_ToLower.calls (a0 : ByteArray) (r : ByteArray) (w : World) (h : strings_ToLower.f a0 = some r) :
    Calls Tryd.prog 41 #[.string a0] w fun e w' => e = .returned (.string r) ∧ Below w.heap.size w w' := by
  unfold strings_ToLower.f at h
  split at h
  · rename_i h1
    split at h
    · rename_i h2
      cases h
      exact Tryd.strings_ToLower_ascii a0 w h1 ((asciiB_iff _).1 h2)
    · cases h
  · cases h

end Go.Proofs.YthjddnmfpdcjnaaDoor
