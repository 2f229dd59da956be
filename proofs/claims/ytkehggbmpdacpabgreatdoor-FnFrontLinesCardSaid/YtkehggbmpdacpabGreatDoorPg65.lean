/- Pages: whether items are a whole page's. -/
import Derived.Test.YtkehggbmpdacpabGreatDoorPl4
import Derived.Test.YtkehggbmpdacpabGreatDoorKp16
set_option maxRecDepth 100000
set_option linter.unusedVariables false
set_option linter.unusedSimpArgs false
set_option linter.unusedSectionVars false
namespace Go.Proofs.YtkehggbmpdacpabGreatDoor.Pg
open Go.Rx hiding bt
open Go.RowKit Go.Proofs.YtkehggbmpdacpabGreatDoor.Dec0 Go.Proofs.YtkehggbmpdacpabGreatDoor.Lex0
theorem bo17 : bodyB Tryz.prog 29 = true := by kernel_rfl
theorem wholeT_no {l : List Ti} {j : Nat} {x : Ti} (hx : l[j]? = some x) (h0 : x.ty = 0) : wholeT l = false := by
  unfold wholeT
  rw [show l.all (fun t => t.ty != 0) = false from ?_, Bool.false_and]
  rw [List.all_eq_false]
  exact ⟨x, List.mem_of_getElem? hx, by simp [h0]⟩
theorem wholeT_end {l : List Ti} {x : Ti} (ha : l.all (fun t => t.ty != 0) = true) (hx : l[l.length - 1]? = some x) : wholeT l = (x.ty == 1) := by
  unfold wholeT
  rw [ha, Bool.true_and, List.getLast?_eq_getElem?, hx]
set_option maxHeartbeats 1000000 in
theorem whole_calls {w : World} {v : Value} {l : List Ti} (hv : TisAt w v l) (hln : l.length ≤ 1000000000) :
    Calls Tryz.prog 29 #[v] w fun e w' => e = .returned (.bool (wholeT l)) ∧ Below w.heap.size w w' := by
  obtain ⟨A, c, rfl, hk⟩ := hv
  refine enter (fun _ => False) 28 [] Tryz.func29 rfl rfl rfl (vs := [.slice A l.length c]) (Has.nil _) ?_
  conv => arg 2; arg 2; whnf
  have post : ∀ (f : Fr) (m : Mem) (b : Bool), wholeT l = b → Rx.look f 2 = some (.bool b) → PJ ⟨28, [], fun _ => False, w⟩ (bodyPost Tryz.prog Tryz.f29 (fun e w' => e = .returned (.bool (wholeT l)) ∧ Below w.heap.size w w') .ret) f m := fun f m b hb hf => by
    subst hb
    exact ret1 rfl rfl hf (fun w' hw' => ⟨rfl, hw'.2.below (fun k _ h => h) (Nat.le_refl _)⟩)
  repeat' ((fail_if_success (show PJ _ (Code.wp _ (Code.loop _) _) _ _)); first | first | refine cseq ?_ | refine rtext ?_ | refine cblk ?_ | refine jnil ?_ | (first | refine jmv rfl rfl rfl ?_ | refine jas_ rfl rfl rfl ?_ | (show Jo _ (.call _); ((show Jo _ (.call ⟨.builtin .len, _, _⟩); refine jy (ylenl rfl und24) rfl rfl ?_)))))
  refine fin (f' := [(0, .slice A l.length c), (5, .slice A l.length c), (6, .int .i64 l.length), (7, .int .i64 (0 : Nat))]) (m' := [])
    (cloop (ι := Nat) (fun j => [(0, .slice A l.length c), (5, .slice A l.length c), (6, .int .i64 l.length), (7, .int .i64 (j : Nat))]) (fun _ => []) (fun n j => n = l.length - j ∧ j ≤ l.length ∧ (l.take j).all (fun t => t.ty != 0) = true) l.length 0 ⟨rfl, Nat.zero_le _, rfl⟩ ?_) ⟨rfl, rfl, rfl, rfl, trivial⟩ rfl
  rintro n j ⟨rfl, hj, ha⟩ K hK
  by_cases hlt : j < l.length
  · obtain ⟨x, hx⟩ : ∃ x, l[j]? = some x := ⟨_, List.getElem?_eq_getElem hlt⟩
    obtain ⟨ad, rfl, hc⟩ := hk j x hx
    by_cases h0 : x.ty = 0
    · repeat' (first | refine cseq ?_ | refine rtext ?_ | refine ctrue rfl ?_ | refine cskip ?_ | refine cblk ?_ | refine cret ?_ | refine tret ?_ | refine bret ?_ | refine jnil ?_ | (first | (show Jo (some 10) (.load _ _); refine jy (yloadsw (c := tiC x) rfl hc (fun h => h) ag42) rfl rfl ?_) | (show Jo _ (.fieldAddr _ _ _); refine jy (yfield rfl fb42_0 rfl) rfl rfl ?_) | (show Jo _ (.load _ _); refine jy (yload (i := 0) rfl rfl rfl one3) rfl rfl ?_) | refine jas_ rfl rfl rfl ?_ | (show Jo _ (.binOp _ _ _ _ _); first | refine jy (ylss rfl rfl (by (exact decide_eq_true (by omega)))) rfl rfl ?_ | refine jy (yeql rfl rfl (by (exact decide_eq_true (by omega)))) rfl rfl ?_) | (show Jo _ (.store _ _ _); refine jstores (i := 0) rfl rfl rfl rfl rfl si42 (.inr hT8) ?_) | (show Jo (some 9) (.indexAddr _ _ _); refine jy (yat (p' := ad.add (5 * j)) rfl rfl und24 sz42 (by omega) (by omega) (by congr 1; omega)) rfl rfl ?_) | (show Jo _ (.alloc _); refine jalloc ze42 rfl (fun g8 hT8 => ?_))))
      all_goals exact post _ _ false (wholeT_no hx h0) rfl
    · have hk2 := hK (l.length - (j + 1)) (j + 1) (by omega) ⟨rfl, by omega, by rw [List.take_add_one, hx, List.all_append, ha]; simp [h0]⟩
      repeat' (first | refine cseq ?_ | refine rtext ?_ | refine ctrue rfl ?_ | refine cfalse rfl ?_ | refine cskip ?_ | refine cblk ?_ | refine tnorm ?_ | refine jnil ?_ | (first | (show Jo (some 10) (.load _ _); refine jy (yloadsw (c := tiC x) rfl hc (fun h => h) ag42) rfl rfl ?_) | refine jmv rfl rfl rfl ?_ | (show Jo _ (.fieldAddr _ _ _); refine jy (yfield rfl fb42_0 rfl) rfl rfl ?_) | (show Jo _ (.load _ _); refine jy (yload (i := 0) rfl rfl rfl one3) rfl rfl ?_) | (show Jo _ (.binOp _ _ _ _ _); first | (show Jo (some 14) (.binOp .add _ _ _ _); refine jy (yadd (c := ((j + 1 : Nat) : Int)) rfl rfl (by rw [i64_in (by omega) (by omega)]; omega)) rfl rfl ?_) | refine jy (ylss rfl rfl (by (exact decide_eq_true (by omega)))) rfl rfl ?_ | refine jy (yeql rfl rfl (by (exact decide_eq_false (by omega)))) rfl rfl ?_) | (show Jo _ (.store _ _ _); refine jstores (i := 0) rfl rfl rfl rfl rfl si42 (.inr hT8) ?_) | (show Jo (some 9) (.indexAddr _ _ _); refine jy (yat (p' := ad.add (5 * j)) rfl rfl und24 sz42 (by omega) (by omega) (by congr 1; omega)) rfl rfl ?_) | (show Jo _ (.alloc _); refine jalloc ze42 rfl (fun g8 hT8 => ?_))))
      all_goals exact finS hk2 ⟨rfl, rfl, rfl, rfl, trivial⟩ (List.nil_sublist _)
  · obtain rfl : j = l.length := by omega
    rw [List.take_length] at ha
    by_cases hz : l.length = 0
    · obtain rfl : l = [] := List.length_eq_zero_iff.1 hz
      repeat' (first | refine cseq ?_ | refine rtext ?_ | refine cfalse rfl ?_ | refine cret ?_ | refine cexit ?_ | refine jnil ?_ | (first | refine js rfl rfl ?_ | refine jmv rfl rfl rfl ?_ | refine jas_ rfl rfl rfl ?_ | (show Jo _ (.binOp _ _ _ _ _); first | (show Jo _ (.binOp .gtr _ _ _ _); refine jy (ygtr rfl rfl (by (exact decide_eq_false (by omega)))) rfl rfl ?_) | refine jy (ylss rfl rfl (by (exact decide_eq_false (by omega)))) rfl rfl ?_) | (show Jo _ (.pick _ _ _); refine jy (ypick0 rfl rfl) rfl rfl ?_) | (show Jo _ (.call _); ((show Jo _ (.call ⟨.builtin .len, _, _⟩); refine jy (ylenl rfl und24) rfl rfl ?_)))))
      all_goals exact post _ _ false rfl rfl
    · obtain ⟨x, hx⟩ : ∃ x, l[l.length - 1]? = some x := ⟨_, List.getElem?_eq_getElem (by omega)⟩
      obtain ⟨ad, rfl, hc⟩ := hk _ x hx
      by_cases h1 : x.ty = 1
      all_goals
        have hw := wholeT_end ha hx
        repeat' (first | refine cseq ?_ | refine rtext ?_ | refine cfalse rfl ?_ | refine cret ?_ | refine cexit ?_ | refine jnil ?_ | (first | (show Jo (some 24) (.fieldAddr _ _ _); refine jy (yfieldA (p' := (ad.add (5 * (l.length - 1))).add 0) rfl fb42_0 rfl) rfl rfl ?_) | (show Jo (some 25) (.load _ _); refine jy (yloadw (v := .int .i64 (x.ty : Nat)) rfl (hc 0 _ rfl) (fun h => h) one3) rfl rfl ?_) | refine jmv rfl rfl rfl ?_ | refine jas_ rfl rfl rfl ?_ | (show Jo _ (.binOp _ _ _ _ _); first | (show Jo _ (.binOp .sub _ _ _ _); refine jy (ysub (c := ((l.length - 1 : Nat) : Int)) rfl rfl (by rw [i64_in (by omega) (by omega)]; omega)) rfl rfl ?_) | (show Jo _ (.binOp .gtr _ _ _ _); refine jy (ygtr rfl rfl (by (exact decide_eq_true (by omega)))) rfl rfl ?_) | refine jy (ylss rfl rfl (by (exact decide_eq_false (by omega)))) rfl rfl ?_ | refine jy (yeql rfl rfl (by first | exact decide_eq_true (by omega) | exact decide_eq_false (by omega))) rfl rfl ?_) | (show Jo _ (.pick _ _ _); refine jy (ypick1 rfl rfl) rfl rfl ?_) | (show Jo _ (.call _); ((show Jo _ (.call ⟨.builtin .len, _, _⟩); refine jy (ylenl rfl und24) rfl rfl ?_))) | (show Jo (some 23) (.indexAddr _ _ _); refine jy (yat (p' := ad.add (5 * (l.length - 1))) rfl rfl und24 sz42 (by omega) (by omega) (by congr 1; omega)) rfl rfl ?_)))
        all_goals exact post _ _ _ (by rw [hw]; first | exact beq_iff_eq.2 h1 | exact beq_eq_false_iff_ne.2 h1) rfl
end Go.Proofs.YtkehggbmpdacpabGreatDoor.Pg
