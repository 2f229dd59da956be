/- FnFrontNone: its walk. -/
import Derived.Test.YtkehggbmpdacpabGreatDoorPg66
import Derived.Test.YtkehggbmpdacpabGreatDoorPg67
import Derived.Test.YtkehggbmpdacpabGreatDoorLwLt
import Derived.Test.YtkehggbmpdacpabGreatDoorKp16
set_option maxRecDepth 100000
set_option linter.unusedVariables false
set_option linter.unusedSimpArgs false
set_option linter.unusedSectionVars false
namespace Go.Proofs.YtkehggbmpdacpabGreatDoor.Pg
open Go.Rx hiding bt
open Go.RowKit Go.Proofs.YtkehggbmpdacpabGreatDoor.Dec0 Go.Proofs.YtkehggbmpdacpabGreatDoor.Lex0
theorem frontNone_told {s : ByteArray} (h0 : 1 ≤ s.size) (h : ((s.extract 0 1).data.toList.all Txt0.isLet) = true) (dv : Bool) : told s.data.toList true dv = told s.data.toList false dv := by
  have hl : (s.extract 0 1).data.toList = s.data.toList.take 1 := by simp
  rw [hl] at h
  cases hs : s.data.toList with
  | nil => have := Txt0.size_list s; rw [hs] at this; simp at this; omega
  | cons c r =>
    rw [hs] at h
    have hc : Txt0.isLet c = true := by simpa using h
    have hd : ∀ k : Fin 256, Txt0.isLet (UInt8.ofNat k.val) = true → k.val < 128 ∧ isSp k.val = false ∧ k.val ≠ 43 ∧ k.val ≠ 45 ∧ k.val ≠ 123 ∧ k.val ≠ 35 ∧ k.val ≠ 60 := by decide +kernel
    have h1 := hd ⟨c.toNat, UInt8.toNat_lt c⟩ (by rw [show UInt8.ofNat (⟨c.toNat, UInt8.toNat_lt c⟩ : Fin 256).val = c from UInt8.ofNat_toNat]; exact hc)
    have hne : ∀ n : Nat, n < 256 → c.toNat ≠ n → c ≠ UInt8.ofNat n := fun n hn h e => h (by rw [e]; simp; omega)
    unfold told
    rw [law_frontNone ea_env.neg dv h1.1 h1.2.1 ⟨hne 43 (by decide) h1.2.2.1, hne 45 (by decide) h1.2.2.2.1, hne 123 (by decide) h1.2.2.2.2.1, hne 35 (by decide) h1.2.2.2.2.2.1, hne 60 (by decide) h1.2.2.2.2.2.2⟩]
set_option maxHeartbeats 2000000 in
theorem frontNone_calls (s : ByteArray) (dv : Bool) (w : World) (hT : Tab w) (hs0 : s.size ≤ 140737488351232) :
    Calls Tryz.prog 5 #[.string s, .bool dv] w fun e w' => e = .returned (.bool true) ∧ Below w.heap.size w w' := by
  refine enter (fun _ => False) 30 [] Tryz.func5 rfl rfl rfl (vs := [.string s, .bool dv]) (Has.nil _) ?_
  conv => arg 2; arg 2; whnf
  have hW : ∃ W, Bs W ⟨30, [], fun _ => False, w⟩ ∧ Tab W := ⟨w, ⟨Below.refl _ _, fun k h => h.elim⟩, hT⟩
  have post : ∀ (f : Fr) (m : Mem), Rx.look f 4 = some (.bool true) → PJ ⟨30, [], fun _ => False, w⟩ (bodyPost Tryz.prog Tryz.f5 (fun e w' => e = .returned (.bool true) ∧ Below w.heap.size w w') .ret) f m := fun f m hf =>
    ret1 rfl rfl hf (fun w' hw' => ⟨rfl, hw'.2.below (fun k _ h => h) (Nat.le_refl _)⟩)
  have hsz := Txt0.size_list s
  have hsub : (s.extract 0 1).size ≤ 4611686018427387904 := by rw [ByteArray.size_extract]; omega
  have hln0 : s.size ≤ 65536 → (told s.data.toList false dv).length ≤ 1000000000000 := fun h => by have := told_len s.data.toList false dv; omega
  by_cases h0 : s.size = 0
  · obtain rfl : s = ⟨#[]⟩ := by rw [Txt0.data_inj]; exact List.length_eq_zero_iff.1 (by omega)
    repeat' (first | (show Jo _ (.binOp .eql 9 _ _ _); refine jy (yseql (c := true) rfl rfl (decide_eq_true rfl)) rfl rfl ?_) | first | refine cseq ?_ | refine rtext ?_ | refine ctrue rfl ?_ | refine cfalse rfl ?_ | refine cskip ?_ | refine cret ?_ | refine tret ?_ | refine jnil ?_ | (first | refine js rfl rfl ?_ | refine jmv rfl rfl rfl ?_ | refine jas_ rfl rfl rfl ?_ | (show Jo _ (.binOp _ _ _ _ _); ((show Jo _ (.binOp .gtr _ _ _ _); refine jy (ygtr rfl rfl (by (exact decide_eq_false (by omega)))) rfl rfl ?_))) | (show Jo _ (.pick _ _ _); first | refine jy (ypick1 rfl rfl) rfl rfl ?_ | refine jy (ypick0 rfl rfl) rfl rfl ?_) | refine jy (ynot rfl rfl) rfl rfl ?_ | (show Jo _ (.call _); first | (show Jo _ (.call ⟨.builtin .len, _, #[9]⟩); refine jy (ylens rfl Lw.und9) rfl rfl ?_) | (show Jo _ (.call ⟨.value (.func 25), _, _⟩); refine jcallq (v := .bool true) boPages rfl rfl rfl (pages_calls hW) ?_))))
    all_goals exact post _ _ rfl
  · have hone : 1 ≤ s.size := by omega
    repeat' (first | refine cseq ?_ | refine rtext ?_ | refine ctrue rfl ?_ | refine cfalse rfl ?_ | refine cskip ?_ | refine cret ?_ | refine tret ?_ | refine jnil ?_ | (first | refine js rfl rfl ?_ | refine jmv rfl rfl rfl ?_ | refine jas_ rfl rfl rfl ?_ | (show Jo _ (.binOp _ _ _ _ _); first | (show Jo _ (.binOp .gtr _ _ _ _); refine jgtr rfl rfl rfl rfl (fun hq => ?_) (fun hq => ?_)) | (show Jo _ (.binOp .eql 9 _ _ _); refine jy (yseql (c := false) rfl rfl (decide_eq_false (fun e => by subst e; exact absurd hone (by decide)))) rfl rfl ?_)) | (show Jo _ (.pick _ _ _); first | refine jy (ypick1 rfl rfl) rfl rfl ?_ | refine jy (ypick0 rfl rfl) rfl rfl ?_) | refine jy (ynot rfl rfl) rfl rfl ?_ | (show Jo _ (.call _); first | (show Jo _ (.call ⟨.builtin .len, _, #[9]⟩); refine jy (ylens rfl Lw.und9) rfl rfl ?_) | (show Jo _ (.call ⟨.value (.func 25), _, _⟩); refine jcallq (v := .bool true) boPages rfl rfl rfl (pages_calls hW) ?_) | (show Jo _ (.call ⟨.value (.func 31), _, _⟩); refine jcallq Lw.boLet rfl rfl rfl (Lw.letters_in hsub) ?_; refine jcases (fun hl => ?_) (fun hl => ?_)) | (show Jo (some 25) (.call ⟨.value (.func 28), _, _⟩); refine jcall (ι := Row) (v := fun r' => r'.val (told s.data.toList true dv).length) (m' := fun r' => r'.mem ((told s.data.toList true dv).flatMap tiC) 59 ++ []) (fun r' => r'.ok 0 5 (told s.data.toList true dv).length ((told s.data.toList true dv).flatMap tiC)) bo16 rfl rfl rfl (parseB hW s.data.toList true dv (by omega)) (fun r1 h1 => ?_)) | (show Jo (some 28) (.call ⟨.value (.func 28), _, _⟩); refine jcall (ι := Row) (v := fun r' => r'.val (told s.data.toList false dv).length) (m' := fun r' => r'.mem ((told s.data.toList false dv).flatMap tiC) 59 ++ (r1.mem ((told s.data.toList true dv).flatMap tiC) 59 ++ [])) (fun r' => r'.ok 0 5 (told s.data.toList false dv).length ((told s.data.toList false dv).flatMap tiC)) bo16 rfl rfl rfl (parseB hW s.data.toList false dv (by omega)) (fun r2 h2 => ?_)) | (show Jo _ (.call ⟨.value (.func 32), _, _⟩); refine jcallq (v := .bool true) bo37 rfl rfl rfl (quietC fun w' hw' => same37B hw'.1 h1 h2 (frontNone_told hone hl dv) (hln0 (by omega))) ?_)) | (show Jo _ (.slice _ _ _ _ _); refine jy (yslice0 (r := s.extract 0 1) rfl rfl Lw.und9 (by omega) (by omega) rfl) rfl rfl ?_)))
    all_goals exact post _ _ rfl
end Go.Proofs.YtkehggbmpdacpabGreatDoor.Pg
namespace Go.Proofs.YtkehggbmpdacpabGreatDoor.PFnFrontNone
open Go.Rx Go.RowKit Go.Proofs.YtkehggbmpdacpabGreatDoorW.PrintWords
theorem laws_FnFrontNone.calls (a0 : ByteArray) (a1 : Bool) (ret_ : Bool) (w : World)  (h : ret_ = true ∧ a0.size ≤ 140737488351232 ∧ Pg.Tab w) :
    Calls Tryz.prog 5 #[.string a0, .bool a1] w fun e w' => e = .returned (.bool ret_) ∧ Below w.heap.size w w' := by
  obtain ⟨rfl, h0, hT⟩ := h
  exact Pg.frontNone_calls a0 a1 w hT h0
end Go.Proofs.YtkehggbmpdacpabGreatDoor.PFnFrontNone
