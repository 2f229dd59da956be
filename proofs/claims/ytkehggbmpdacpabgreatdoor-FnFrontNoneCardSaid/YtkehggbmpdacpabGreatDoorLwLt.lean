/- laws.letters: whether all bytes of a text are letters. -/
import Derived.Test.YtkehggbmpdacpabGreatDoorKp15
set_option maxRecDepth 100000
set_option linter.unusedVariables false
set_option linter.unusedSimpArgs false
set_option linter.unusedSectionVars false
namespace Go.Proofs.YtkehggbmpdacpabGreatDoor.Lw
open Go.Rx
open Go.RowKit Go.Proofs.YtkehggbmpdacpabGreatDoor.Dec0 Go.Proofs.YtkehggbmpdacpabGreatDoor.Txt0
theorem boLet : bodyB Tryz.prog 31 = true := by kernel_rfl
set_option maxHeartbeats 1000000 in
theorem letters_calls (s : ByteArray) (w : World) (hs : s.size ≤ 4611686018427387904) : Calls Tryz.prog 31 #[.string s] w fun e w' => e = .returned (.bool (s.data.toList.all isLet)) ∧ Below w.heap.size w w' := by
  refine enter (fun _ => False) 21 [] Tryz.func31 rfl rfl rfl (vs := [.string s]) (Has.nil _) ?_
  conv => arg 2; arg 2; whnf
  have post : ∀ (f : Fr) (m : Mem) (b : Bool), s.data.toList.all isLet = b → Rx.look f 2 = some (.bool b) → PJ ⟨21, [], fun _ => False, w⟩ (bodyPost Tryz.prog Tryz.f31 (fun e w' => e = .returned (.bool (s.data.toList.all isLet)) ∧ Below w.heap.size w w') .ret) f m := fun f m b hb hf => by
    subst hb
    exact ret1 rfl rfl hf (fun w' hw' => ⟨rfl, hw'.2.below (fun k _ h => h) (Nat.le_refl _)⟩)
  repeat' (first | refine cseq ?_ | refine rtext ?_ | refine cblk ?_ | refine jnil ?_ | ((refine jas_ rfl rfl rfl ?_)))
  refine fin (f' := [(0, .string s), (3, .int .i64 (0 : Nat))]) (m' := [])
    (cloop (ι := Nat) (fun j => [(0, .string s), (3, .int .i64 (j : Nat))]) (fun _ => []) (fun k j => k = s.size - j ∧ j ≤ s.size ∧ s.data.toList.all isLet = (s.data.toList.drop j).all isLet) s.size 0 ⟨rfl, by omega, rfl⟩ ?_) ⟨rfl, rfl, trivial⟩ rfl
  rintro k j ⟨rfl, hj, heq⟩ K hK
  by_cases hlt : j < s.size
  case neg =>
    obtain rfl : j = s.size := by omega
    rw [List.drop_eq_nil_of_le (by rw [size_list]; exact Nat.le_refl _)] at heq
    repeat' (first | refine cseq ?_ | refine rtext ?_ | refine cfalse rfl ?_ | refine cret ?_ | refine cexit ?_ | refine jnil ?_ | (first | refine jmv rfl rfl rfl ?_ | refine jas_ rfl rfl rfl ?_ | (show Jo _ (.binOp _ _ _ _ _); refine jy (ylss rfl rfl (by (exact decide_eq_false (by omega)))) rfl rfl ?_) | (show Jo _ (.call _); ((show Jo _ (.call ⟨.builtin .len, _, _⟩); refine jy (ylens rfl und9) rfl rfl ?_)))))
    exact post _ _ true heq rfl
  obtain ⟨c, hd, hb⟩ := drop_bt hlt
  rw [hd, List.all_cons] at heq
  have h256 := UInt8.toNat_lt c
  have hol := or_let ⟨c.toNat, h256⟩
  dsimp only at hol
  have hor : bits .or .u8 (Rx.bt s (j : Nat)) 32 = bits .or .u8 ((c.toNat : Nat) : Int) 32 := by rw [hb]
  generalize bits .or .u8 ((c.toNat : Nat) : Int) 32 = o at hol hor
  have hil : isLet c = (decide (65 ≤ c.toNat) && decide (c.toNat ≤ 90) || decide (97 ≤ c.toNat) && decide (c.toNat ≤ 122)) := rfl
  rw [← Bool.not_not (_ || _), ← hol] at hil
  repeat' (first | refine cseq ?_ | refine rtext ?_ | refine ctrue rfl ?_ | refine cfalse rfl ?_ | refine cskip ?_ | refine cblk ?_ | refine cret ?_ | refine tnorm ?_ | refine tret ?_ | refine bret ?_ | refine jnil ?_ | (first | refine js rfl rfl ?_ | refine jmv rfl rfl rfl ?_ | refine jas_ rfl rfl rfl ?_ | (show Jo _ (.binOp _ _ _ _ _); first | refine jy (yadd (c := ((j + 1 : Nat) : Int)) rfl rfl (by rw [i64_in (by omega) (by omega)]; omega)) rfl rfl ?_ | (show Jo _ (.binOp .or _ _ _ _); refine jy (yor rfl rfl hor) rfl rfl ?_) | (show Jo _ (.binOp .gtr _ _ _ _); refine jgtr rfl rfl rfl rfl (fun hq => ?_) (fun hq => ?_)) | refine jy (ylss rfl rfl (by (exact decide_eq_true (by omega)))) rfl rfl ?_ | refine jlss rfl rfl rfl rfl (fun hq => ?_) (fun hq => ?_)) | (show Jo _ (.pick _ _ _); first | refine jy (ypick1 rfl rfl) rfl rfl ?_ | refine jy (ypick0 rfl rfl) rfl rfl ?_) | (show Jo _ (.index _ _ _); refine jy (yidx (c := bt _ _) rfl rfl und9 (by omega) (by omega) rfl) rfl rfl ?_) | (show Jo _ (.call _); ((show Jo _ (.call ⟨.builtin .len, _, _⟩); refine jy (ylens rfl und9) rfl rfl ?_)))))
  all_goals first
    | exact post _ _ false (by rw [heq, hil, show decide (o < 97) = true from decide_eq_true (by omega)]; simp) rfl
    | exact post _ _ false (by rw [heq, hil, show decide (122 < o) = true from decide_eq_true (by omega)]; simp) rfl
    | exact fin (hK (s.size - (j + 1)) (j + 1) (by omega) ⟨rfl, by omega, by rw [heq, hil, decide_eq_false (show ¬ o < 97 by omega), decide_eq_false (show ¬ 122 < o by omega)]; simp⟩) ⟨rfl, rfl, trivial⟩ rfl
theorem letters_in {X : Cx} {m : Mem} {s : ByteArray} (hs : s.size ≤ 4611686018427387904) : ∀ w, Cl X m w → Calls Tryz.prog 31 #[.string s] w fun e w' => e = .returned (.bool (s.data.toList.all isLet)) ∧ Cl X m w' :=
  quietC fun w _ => letters_calls s w hs
end Go.Proofs.YtkehggbmpdacpabGreatDoor.Lw
