/- laws.prose: whether a text begins nothing, and ends without blanks. -/
import Derived.Test.YtkehggbmpdacpabGreatDoorPl2
import Derived.Test.YtkehggbmpdacpabGreatDoorKp16
set_option maxRecDepth 100000
set_option linter.unusedVariables false
set_option linter.unusedSimpArgs false
set_option linter.unusedSectionVars false
namespace Go.Proofs.YtkehggbmpdacpabGreatDoor.Lw
open Go.Rx
open Go.RowKit Go.Proofs.YtkehggbmpdacpabGreatDoor.Dec0 Go.Proofs.YtkehggbmpdacpabGreatDoor.Txt0
theorem boPr : bodyB Tryz.prog 33 = true := by kernel_rfl
def ProseF (s : ByteArray) : Prop := Lex0.ProseT s.data.toList ∧ s.size ≤ 65536
theorem bt_end {s : ByteArray} (h : 0 < s.size) : ∃ d, s.data.toList.getLast? = some d ∧ Rx.bt s ((s.size - 1 : Nat) : Int) = (d.toNat : Int) := by
  obtain ⟨c, h1, h2⟩ := drop_bt (s := s) (j := s.size - 1) (by omega)
  refine ⟨c, ?_, h2⟩
  rw [show s.size - 1 + 1 = s.size by omega, show s.data.toList.drop s.size = [] from List.drop_eq_nil_of_le (by rw [size_list]; exact Nat.le_refl _)] at h1
  have := List.take_append_drop (s.size - 1) s.data.toList
  rw [h1] at this
  rw [← this, List.getLast?_append]
  rfl
theorem prose_calls (s : ByteArray) (w : World) (hs : s.size ≤ 4611686018427387904) : Calls Tryz.prog 33 #[.string s] w fun e w' => ∃ b, e = .returned (.bool b) ∧ Below w.heap.size w w' ∧ (b = true → ProseF s) := by
  refine enter (fun _ => False) 37 [] Tryz.func33 rfl rfl rfl (vs := [.string s]) (Has.nil _) ?_
  conv => arg 2; arg 2; whnf
  have post : ∀ (f : Fr) (m : Mem) (b : Bool), (b = true → ProseF s) → Rx.look f 2 = some (.bool b) → PJ ⟨37, [], fun _ => False, w⟩ (bodyPost Tryz.prog Tryz.f33 (fun e w' => ∃ b, e = .returned (.bool b) ∧ Below w.heap.size w w' ∧ (b = true → ProseF s)) .ret) f m := fun f m b hb hf =>
    ret1 rfl rfl hf (fun w' hw' => ⟨b, rfl, hw'.2.below (fun k _ h => h) (Nat.le_refl _), hb⟩)
  repeat' (first | refine cseq ?_ | refine rtext ?_ | refine cret ?_ | refine jnil ?_ | (first | refine js rfl rfl ?_ | refine jmv rfl rfl rfl ?_ | refine jas_ rfl rfl rfl ?_ | (show Jo _ (.binOp _ _ _ _ _); first | (show Jo _ (.binOp .neq 9 _ _ _); refine jsneq rfl rfl rfl rfl (fun hne => ?_) (fun hne => ?_)) | (show Jo _ (.binOp .leq _ _ _ _); refine jleq rfl rfl rfl rfl (fun hq => ?_) (fun hq => ?_)) | (show Jo _ (.binOp .gtr _ _ _ _); refine jgtr rfl rfl rfl rfl (fun hg => ?_) (fun hg => ?_)) | (show Jo _ (.binOp .sub _ _ _ _); refine jy (ysub (c := ((s.size - 1 : Nat) : Int)) rfl rfl (by have hz := pos_of_ne hne; rw [i64_in (by omega) (by omega)]; omega)) rfl rfl ?_)) | (show Jo _ (.pick _ _ _); first | refine jy (ypick1 rfl rfl) rfl rfl ?_ | refine jy (ypick0 rfl rfl) rfl rfl ?_) | refine jy (ynot rfl rfl) rfl rfl ?_ | (show Jo _ (.call _); first | (show Jo _ (.call ⟨.builtin .len, _, _⟩); refine jy (ylens rfl und9) rfl rfl ?_) | (show Jo _ (.call ⟨.value (.func 39), _, _⟩); refine jcallq boAsc rfl rfl rfl (ascii_in (by omega)) ?_; refine jcases (fun hasc => ?_) (fun hasc => ?_)) | (show Jo (some 7) (.call ⟨.value (.func 38), _, _⟩); refine jcallq boHas rfl rfl rfl (has_in (by omega) (by decide)) ?_; refine jcases (fun h1 => ?_) (fun h1 => ?_)) | (show Jo (some 12) (.call ⟨.value (.func 38), _, _⟩); refine jcallq boHas rfl rfl rfl (has_in (by omega) (by decide)) ?_; refine jcases (fun h2 => ?_) (fun h2 => ?_)) | (show Jo (some 17) (.call ⟨.value (.func 38), _, _⟩); refine jcallq boHas rfl rfl rfl (has_in (by omega) (by decide)) ?_; refine jcases (fun h3 => ?_) (fun h3 => ?_))) | (show Jo _ (.index 9 _ _); refine jy (yidx (c := Rx.bt _ _) rfl rfl und9 (by omega) (by have hz := pos_of_ne hne; omega) rfl) rfl rfl ?_)))
  all_goals first
    | exact post _ _ false (fun h => by cases h) rfl
    | (refine post _ _ true (fun _ => ⟨⟨(asc_all hasc).1, fun c hc => ⟨has_one h1 c hc, has_one h2 c hc⟩, ?_⟩, by omega⟩) rfl
       obtain ⟨d, hd1, hd2⟩ := bt_end (pos_of_ne hne)
       rw [hd2] at hg
       refine ⟨d, hd1, ?_⟩
       unfold Lex0.isBl
       simp only [Bool.or_eq_false_iff, beq_eq_false_iff_ne, ne_eq]
       refine ⟨⟨?_, ?_⟩, ?_⟩ <;> (intro e; rw [e] at hg; revert hg; decide))
theorem prose_in {X : Cx} {m : Mem} {s : ByteArray} (hs : s.size ≤ 4611686018427387904) : ∀ w, Cl X m w → Calls Tryz.prog 33 #[.string s] w fun e w' => ∃ b, e = .returned (.bool b) ∧ Cl X m w' ∧ (b = true → ProseF s) := fun w hw =>
  (prose_calls s w hs).mono fun e w' ⟨b, h1, h2, h3⟩ => ⟨b, h1, hw.below h2, h3⟩
end Go.Proofs.YtkehggbmpdacpabGreatDoor.Lw
