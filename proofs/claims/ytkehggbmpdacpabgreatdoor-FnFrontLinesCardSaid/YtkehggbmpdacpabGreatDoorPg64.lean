/- Pages: the same items, by ==. -/
import Derived.Test.YtkehggbmpdacpabGreatDoorKp16
set_option maxRecDepth 100000
set_option linter.unusedVariables false
set_option linter.unusedSimpArgs false
set_option linter.unusedSectionVars false
namespace Go.Proofs.YtkehggbmpdacpabGreatDoor.Pg
open Go.Rx hiding bt
open Go.RowKit Go.Proofs.YtkehggbmpdacpabGreatDoor.Dec0 Go.Proofs.YtkehggbmpdacpabGreatDoor.Lex0
theorem bo37 : bodyB Tryz.prog 32 = true := by kernel_rfl
theorem same37_calls {w : World} {v1 v2 : Value} {l : List Ti} (h1 : TisAt w v1 l) (h2 : TisAt w v2 l) (hl : l.length ≤ 1000000000000) : Calls Tryz.prog 32 #[v1, v2] w fun e w' => e = .returned (.bool true) ∧ Below w.heap.size w w' := by
  obtain ⟨A1, c1, rfl, k1⟩ := h1
  obtain ⟨A2, c2, rfl, k2⟩ := h2
  refine enter (fun _ => False) 26 [] Tryz.func32 rfl rfl rfl (vs := [.slice A1 l.length c1, .slice A2 l.length c2]) (Has.nil _) ?_
  conv => arg 2; arg 2; whnf
  repeat' ((fail_if_success (show PJ _ (Code.wp _ (Code.loop _) _) _ _)); first | first | refine cseq ?_ | refine rtext ?_ | refine cfalse rfl ?_ | refine cskip ?_ | refine cblk ?_ | refine jnil ?_ | (first | refine jmv rfl rfl rfl ?_ | refine jas_ rfl rfl rfl ?_ | (show Jo _ (.binOp _ _ _ _ _); ((show Jo _ (.binOp .neq _ _ _ _); refine jy (yneq rfl rfl (by (exact decide_eq_false (by omega)))) rfl rfl ?_))) | (show Jo _ (.call _); ((show Jo _ (.call ⟨.builtin .len, _, _⟩); refine jy (ylenl rfl und24) rfl rfl ?_)))))
  refine fin (f' := [(0, .slice A1 l.length c1), (1, .slice A2 l.length c2), (12, .int .i64 l.length), (13, .int .i64 (0 : Nat))]) (m' := [])
    (cloop (ι := Nat) (fun j => [(0, .slice A1 l.length c1), (1, .slice A2 l.length c2), (12, .int .i64 l.length), (13, .int .i64 (j : Nat))]) (fun _ => []) (fun n j => n = l.length - j ∧ j ≤ l.length) l.length 0 ⟨rfl, Nat.zero_le _⟩ ?_) ⟨rfl, rfl, rfl, rfl, trivial⟩ rfl
  rintro n j ⟨rfl, hj⟩ K hK
  by_cases hlt : j < l.length
  · obtain ⟨t, ht⟩ : ∃ t, l[j]? = some t := ⟨_, List.getElem?_eq_getElem hlt⟩
    obtain ⟨ad1, rfl, hc1⟩ := k1 j t ht
    obtain ⟨ad2, rfl, hc2⟩ := k2 j t ht
    have hk := hK (l.length - (j + 1)) (j + 1) (by omega) ⟨rfl, by omega⟩
    repeat' (first | (show PJ _ (Code.wp _ _ _) _ _; first | refine cseq ?_ | refine rtext ?_ | refine ctrue rfl ?_ | refine cfalse rfl ?_ | refine cskip ?_ | refine cblk ?_ | refine rquiet mixed (by kernel_rfl) ?_) | refine tnorm ?_ | refine jnil ?_ | (first | refine jmv rfl rfl rfl ?_ | (show Jo _ (.load _ _); first | refine jy (yloadsw (c := tiC t) rfl hc1 (fun h => h) ag42) rfl rfl ?_ | refine jy (yloadsw (c := tiC t) rfl hc2 (fun h => h) ag42) rfl rfl ?_) | refine jas_ rfl rfl rfl ?_ | (show Jo _ (.binOp _ _ _ _ _); first | (show Jo _ (.binOp .neq 59 _ _ _); refine jy (yneA (xs := [_, _, _, _, _]) (ys := [_, _, _, _, _]) rfl rfl eg42 (es42 _ _ _ _ _)) rfl rfl ?_) | (show Jo _ (.binOp .add _ _ _ _); refine jy (yadd (c := ((j + 1 : Nat) : Int)) rfl rfl (by rw [i64_in (by omega) (by omega)]; omega)) rfl rfl ?_) | refine jy (ylss rfl rfl (by (exact decide_eq_true (by omega)))) rfl rfl ?_) | (show Jo (some 18) (.indexAddr _ _ _); refine jy (yat (p' := ad1.add (5 * j)) rfl rfl und24 sz42 (by omega) (by omega) (by congr 1; omega)) rfl rfl ?_) | (show Jo (some 22) (.indexAddr _ _ _); refine jy (yat (p' := ad2.add (5 * j)) rfl rfl und24 sz42 (by omega) (by omega) (by congr 1; omega)) rfl rfl ?_)))
    exact fin hk ⟨rfl, rfl, rfl, rfl, trivial⟩ rfl
  · obtain rfl : j = l.length := by omega
    repeat' (first | refine cseq ?_ | refine rtext ?_ | refine cfalse rfl ?_ | refine cret ?_ | refine cexit ?_ | refine jnil ?_ | (first | refine jas_ rfl rfl rfl ?_ | (show Jo _ (.binOp _ _ _ _ _); refine jy (ylss rfl rfl (by (exact decide_eq_false (by omega)))) rfl rfl ?_)))
    exact ret1 rfl rfl rfl (fun w' hw' => ⟨rfl, hw'.2.below (fun k _ h => h) (Nat.le_refl _)⟩)
end Go.Proofs.YtkehggbmpdacpabGreatDoor.Pg
