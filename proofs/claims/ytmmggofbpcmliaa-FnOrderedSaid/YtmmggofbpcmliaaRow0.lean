/- Arguments that are slices, opened for a row: what they hold, as lists. No program here. -/
import Derived.Test.YtmmggofbpcmliaaWWords
import Derived.Test.YtmmggofbpcmliaaWSized
import Derived.SliceStrings
import Derived.ChangeAt
import Derived.ProofKit
import Derived.ShutString
import Derived.ChangeOld
import Derived.SizedLaws
import Derived.WalkKit
set_option linter.unusedVariables false
namespace Go.Proofs.Ytmmggofbpcmliaa.Row0
open Go.ChangeShapes Go.WideShapes Go.ChangeAt Go.RowKit Go.Proofs.YtmmggofbpcmliaaW.PrintWords

section
variable {H : Type} {enc : TypeId × Value → H} {P : Program} {W : World}

theorem open_strs {t e : TypeId} {a : Option Addr} {len cap : Nat} {d : DataW H} {ps : List MemPlace}
    (hu : P.underlying t = some (.slice e)) (he : P.underlying e = some .string) (hc : P.cellsOf e = 1)
    (h : DataW.Trod enc P W 0 (fun _ => true) true t (.slice a len cap) d ps) :
    ∃ l : List ByteArray, l.length = len ∧ len ≤ cap ∧ Kd.C Kd.string W a len l := by
  obtain ⟨fuel, hf⟩ := h
  rcases open_strings hu he hc hf with ⟨hcs, _⟩ | ⟨x, l, c, ss, hcs, _, hl, hm, hz, hx, hcell, _⟩
  · simp [Value.cells] at hcs
    obtain ⟨rfl, rfl, rfl⟩ := hcs
    exact ⟨[], rfl, Nat.le_refl _, Kd.C_of_reads (d := ByteArray.empty) (h1 := fun _ => rfl) ⟨rfl, by omega, fun h => by omega⟩⟩
  · simp [Value.cells] at hcs
    obtain ⟨rfl, rfl, rfl⟩ := hcs
    simp only [if_true] at hz
    unfold maxLen at hm
    refine ⟨ss.take len, by simp; omega, hl, Kd.C_of_reads (d := ByteArray.empty) (h1 := fun _ => rfl) ⟨by simp; omega, by omega, fun _ => ⟨x, rfl, fun j hj => ?_⟩⟩⟩
    rw [hcell j (by omega)]
    simp [List.getD, hj]

theorem sized_strs {t e : TypeId} {a : Option Addr} {len cap : Nat} {d : DataW H} {ps : List MemPlace} {ts : List TypeId} {ds : List (DataW H)} {j : Nat}
    (hsz : (DataW.weightsEach P ts ds).all (· ≤ reachBytes) = true) (ht : ts[j]? = some t) (hd : ds[j]? = some d) (hu : P.underlying t = some (.slice e)) (he : P.underlying e = some .string) (hc : P.cellsOf e = 1) (hB : P.bytesOf e = 16)
    (h : DataW.Trod enc P W 0 (fun _ => true) true t (.slice a len cap) d ps) : len ≤ 8796093022208 := by
  obtain ⟨fuel, hf⟩ := h
  rcases open_strings hu he hc hf with ⟨hcs, _⟩ | ⟨x, l, c, ss, hcs, _, hl, hm, hz, hx, hcell, _⟩
  · simp [Value.cells] at hcs
    obtain ⟨rfl, rfl, rfl⟩ := hcs
    omega
  · simp [Value.cells] at hcs
    obtain ⟨rfl, rfl, rfl⟩ := hcs
    obtain ⟨hx, _⟩ := Prod.mk.inj hx
    subst hx
    have z := sized_slice hsz ht hd hu
    rw [hB] at z
    simp only [if_true] at hz
    simp only [strs, List.length_map, List.length_take, List.length_drop, reachBytes] at z
    omega

theorem open_u8s {t e : TypeId} {a : Option Addr} {len cap : Nat} {d : DataW H} {ps : List MemPlace}
    (hu : P.underlying t = some (.slice e)) (he : P.underlying e = some (.int .u8)) (hc : P.cellsOf e = 1)
    (h : DataW.Trod enc P W 0 (fun _ => true) true t (.slice a len cap) d ps) :
    ∃ l : List Int, l.length = len ∧ len ≤ cap ∧ Kd.C (Kd.int .u8) W a len l ∧ ∀ x ∈ l, 0 ≤ x ∧ x ≤ 255 := by
  obtain ⟨fuel, hf⟩ := h
  rcases open_ints hu he hc hf with ⟨hcs, _⟩ | ⟨x, l, c, zs, hcs, _, hl, hm, hz, hx, hcell, hwz⟩
  · simp [Value.cells] at hcs
    obtain ⟨rfl, rfl, rfl⟩ := hcs
    exact ⟨[], rfl, Nat.le_refl _, Kd.C_of_reads (d := (0 : Int)) (h1 := fun _ => rfl) ⟨rfl, by omega, fun h => by omega⟩, fun x hx => by cases hx⟩
  · simp [Value.cells] at hcs
    obtain ⟨rfl, rfl, rfl⟩ := hcs
    simp only [if_true] at hz
    unfold maxLen at hm
    refine ⟨zs.take len, by simp; omega, hl, Kd.C_of_reads (d := (0 : Int)) (h1 := fun _ => rfl) ⟨by simp; omega, by omega, fun _ => ⟨x, rfl, fun j hj => ?_⟩⟩, fun y hy => ?_⟩
    · rw [hcell j (by omega)]
      simp [List.getD, hj]
    · have := hwz y (List.mem_of_mem_take hy)
      simp [Lit.wf, IntKind.min, IntKind.max, IntKind.bits, IntKind.signed] at this
      exact ⟨by omega, by omega⟩
end
end Go.Proofs.Ytmmggofbpcmliaa.Row0
