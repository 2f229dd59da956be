/- What zzFits3 answers: whether all texts are short (the printed function of one statement). -/
import Derived.Test.YtgcadmofjblaeaaDoorPFnNameBuiltx1
import Derived.Test.YtgcadmofjblaeaaDoorLib0
set_option linter.unusedVariables false
namespace Go.Proofs.YtgcadmofjblaeaaDoor.Fits0FnNameBuilt
open Go.RowKit Go.Proofs.YtgcadmofjblaeaaDoor.PFnNameBuilt Go.Proofs.YtgcadmofjblaeaaDoorW.PrintWords Go.Proofs.YtgcadmofjblaeaaDoorW.PrintLast Go.Proofs.YtgcadmofjblaeaaDoor.Lib0

def Short (l : List ByteArray) : Prop := (l.length : Int) ≤ 2147483647 ∧ ∀ i : Int, (rdOf ByteArray.empty l i).size ≤ 2147483647

theorem fits_loop (l : List ByteArray) (hl : l.length ≤ 8796093022208) : ∀ (d i : Nat), l.length - i = d → i ≤ l.length →
    ∃ b, Ev (fun k => laws_zzFits3.l0 k l (l.length : Int) i) b ∧ (b = true → ∀ j : Nat, i ≤ j → j < l.length → (rdOf ByteArray.empty l (j : Int)).size ≤ 2147483647) := by
  intro d
  induction d with
  | zero =>
    intro i hd hi
    refine ⟨true, Ev.step (f := fun _ => some true) (fun k => ?_) (Ev.now _), fun _ j h1 h2 => by omega⟩
    simp only [laws_zzFits3.l0]; rw [if_neg (by omega)]
  | succ d ih =>
    intro i hd hi
    by_cases h : ((rdOf ByteArray.empty l (i : Int)).size : Int) > 2147483647
    · refine ⟨false, Ev.step (f := fun _ => some false) (fun k => ?_) (Ev.now _), (fun h => by cases h)⟩
      simp only [laws_zzFits3.l0]; rw [if_pos (by omega), if_pos (by omega), if_pos (by omega), if_pos h]
    · obtain ⟨b, hb, hf⟩ := ih (i + 1) (by omega) (by omega)
      refine ⟨b, Ev.step (fun k => ?_) hb, fun e j h1 h2 => ?_⟩
      · simp only [laws_zzFits3.l0]; rw [if_pos (by omega), if_pos (by omega), if_pos (by omega), if_neg h, wrap_id _ (by omega)]
        rfl
      · by_cases g : j = i
        · subst g; omega
        · exact hf e j (by omega) h2

theorem fits_tells (l : List ByteArray) (hl : l.length ≤ 8796093022208) : ∃ b, Ev (fun k => laws_zzFits3.f k l) b ∧ (b = true → Short l) := by
  by_cases h : (l.length : Int) > 2147483647
  · exact ⟨false, Ev.congr (f := fun _ => some false) (fun k => by unfold laws_zzFits3.f; rw [if_pos h]) (Ev.now _), (fun h => by cases h)⟩
  · obtain ⟨b, hb, hf⟩ := fits_loop l hl l.length 0 (by omega) (by omega)
    refine ⟨b, Ev.congr (fun k => by unfold laws_zzFits3.f; rw [if_neg h]; rfl) hb, fun e => ⟨by omega, fun i => ?_⟩⟩
    by_cases g : i.toNat < l.length
    · have := hf e i.toNat (by omega) g
      unfold rdOf at this ⊢
      rw [show ((i.toNat : Nat) : Int).toNat = i.toNat from rfl] at this
      exact this
    · unfold rdOf
      rw [getD_out _ _ _ (by omega)]
      simp

end Go.Proofs.YtgcadmofjblaeaaDoor.Fits0FnNameBuilt
