/- laws.begins: whether a text begins with another one at a place. -/
import Derived.Test.YtkehggbmpdacpabGreatDoorKp15
set_option maxRecDepth 100000
set_option linter.unusedVariables false
set_option linter.unusedSimpArgs false
set_option linter.unusedSectionVars false
namespace Go.Proofs.YtkehggbmpdacpabGreatDoor.Lw
open Go.Rx
open Go.RowKit Go.Proofs.YtkehggbmpdacpabGreatDoor.Dec0 Go.Proofs.YtkehggbmpdacpabGreatDoor.Txt0
theorem boBg : bodyB Tryz.prog 27 = true := by kernel_rfl
theorem begins_calls (s x : ByteArray) (i : Nat) (w : World) (hs : s.size ≤ 4611686018427387904) (hi : i ≤ 4611686018427387904) (hx : x.size ≤ 1099511627776) :
    Calls Tryz.prog 27 #[.string s, .int .i64 (i : Nat), .string x] w fun e w' => e = .returned (.bool (decide (i + x.size ≤ s.size) && x.data.toList.isPrefixOf (s.data.toList.drop i))) ∧ Below w.heap.size w w' := by
  refine enter (fun _ => False) 29 [] Tryz.func27 rfl rfl rfl (vs := [.string s, .int .i64 (i : Nat), .string x]) (Has.nil _) ?_
  conv => arg 2; arg 2; whnf
  repeat' (first | refine cseq ?_ | refine rtext ?_ | refine cret ?_ | refine jnil ?_ | (first | refine js rfl rfl ?_ | refine jmv rfl rfl rfl ?_ | refine jas_ rfl rfl rfl ?_ | (show Jo _ (.binOp _ _ _ _ _); first | (show Jo _ (.binOp .add _ _ _ _); refine jy (yadd (c := ((i + x.size : Nat) : Int)) rfl rfl (by rw [i64_in (by omega) (by omega)]; omega)) rfl rfl ?_) | (show Jo _ (.binOp .leq _ _ _ _); refine jleq rfl rfl rfl rfl (fun hq => ?_) (fun hq => ?_)) | (show Jo _ (.binOp .eql 9 _ _ _); refine jy (yseql rfl rfl (piece_eq s x ((i : Nat) : Int).toNat ((i + x.size : Nat) : Int).toNat (by omega))) rfl rfl ?_) | refine jy (ygeq rfl rfl (by (exact decide_eq_true (by omega)))) rfl rfl ?_) | (show Jo _ (.pick _ _ _); first | refine jy (ypick1 rfl rfl) rfl rfl ?_ | refine jy (ypick0 rfl rfl) rfl rfl ?_) | (show Jo _ (.slice _ _ _ _ _); refine jy (yslice rfl rfl rfl und9 (by omega) (by omega) (by omega) rfl) rfl rfl ?_) | (show Jo _ (.call _); ((show Jo _ (.call ⟨.builtin .len, _, #[9]⟩); refine jy (ylens rfl und9) rfl rfl ?_)))))
  · exact ret1 rfl rfl rfl (fun w' hw' => ⟨by rw [decide_eq_true (show i + x.size ≤ s.size by omega), Int.toNat_natCast, Bool.true_and], hw'.2.below (fun k _ h => h) (Nat.le_refl _)⟩)
  · exact ret1 rfl rfl rfl (fun w' hw' => ⟨by rw [decide_eq_false (show ¬ i + x.size ≤ s.size by omega), Bool.false_and], hw'.2.below (fun k _ h => h) (Nat.le_refl _)⟩)
theorem begins_in {X : Cx} {m : Mem} {s x : ByteArray} {i : Nat} (hs : s.size ≤ 4611686018427387904) (hi : i ≤ 4611686018427387904) (hx : x.size ≤ 1099511627776) : ∀ w, Cl X m w → Calls Tryz.prog 27 #[.string s, .int .i64 (i : Nat), .string x] w fun e w' => e = .returned (.bool (decide (i + x.size ≤ s.size) && x.data.toList.isPrefixOf (s.data.toList.drop i))) ∧ Cl X m w' :=
  quietC fun w _ => begins_calls s x i w hs hi hx
end Go.Proofs.YtkehggbmpdacpabGreatDoor.Lw
