/- Pages: items that stand further on. -/
import Derived.Test.YtkehggbmpdacpabGreatDoorPg65
set_option maxRecDepth 100000
set_option linter.unusedVariables false
set_option linter.unusedSimpArgs false
set_option linter.unusedSectionVars false
namespace Go.Proofs.YtkehggbmpdacpabGreatDoor.Pg
open Go.Rx hiding bt
open Go.RowKit Go.Proofs.YtkehggbmpdacpabGreatDoor.Dec0 Go.Proofs.YtkehggbmpdacpabGreatDoor.Lex0
theorem fb42_1m : fieldB Tryz.prog 59 1 = some 1 := by kernel_rfl
theorem bo36 : bodyB Tryz.prog 43 = true := by kernel_rfl
@[reducible] def mvC (k : Nat) (l : List Ti) : List Value := (l.map (mvTi k)).flatMap tiC
theorem mvC_snoc (k : Nat) {l : List Ti} {j : Nat} {x : Ti} (hx : l[j]? = some x) : mvC k (l.take (j + 1)) = mvC k (l.take j) ++ tiC (mvTi k x) := by
  unfold mvC
  rw [List.take_add_one, hx]
  simp
theorem ok_up {w : World} {n : Nat} {r : Row} {m sz : Nat} {xs : List Value} (h : r.ok 0 sz m xs) (hm : r.may ⟨n, [], fun _ => False, w⟩) : r.ok w.heap.size sz m xs := by
  cases r with
  | nil => exact h
  | «at» g cap rr => exact ⟨hm.elim (fun h => h.elim) id, h.2⟩
set_option maxHeartbeats 1000000 in
theorem moved_calls {w : World} {v : Value} {l : List Ti} {k : Nat} (hv : TisAt w v l) (hln : l.length ≤ 1000000000) (hk0 : k ≤ 1099511627776) (hp : ∀ x ∈ l, x.pos ≤ 1099511627776) :
    Calls Tryz.prog 43 #[v, .int .i64 (k : Nat)] w fun e w' => ∃ r : Row, e = .returned (r.val l.length) ∧ Has (r.mem (mvC k l) 59) w' ∧ r.ok w.heap.size 5 l.length (mvC k l) ∧ Below w.heap.size w w' := by
  obtain ⟨A, c, rfl, hk⟩ := hv
  refine enter (fun _ => False) 25 [] Tryz.func43 rfl rfl rfl (vs := [.slice A l.length c, .int .i64 (k : Nat)]) (Has.nil _) ?_
  conv => arg 2; arg 2; whnf
  repeat' ((fail_if_success (show PJ _ (Code.wp _ (Code.loop _) _) _ _)); first | first | refine cseq ?_ | refine rtext ?_ | refine cblk ?_ | refine jnil ?_ | (first | refine jmv rfl rfl rfl ?_ | refine jas_ rfl rfl rfl ?_ | (show Jo _ (.call _); ((show Jo _ (.call ⟨.builtin .len, _, _⟩); refine jy (ylenl rfl und24) rfl rfl ?_)))))
  refine fin (f' := [(0, .slice A l.length c), (1, .int .i64 (k : Nat)), (5, Row.nil.val 0), (8, .slice A l.length c), (9, .int .i64 l.length), (10, .int .i64 (0 : Nat))]) (m' := Row.nil.mem (mvC k (l.take 0)) 59 ++ [])
    (cloop (ι := Nat × Row) (fun q => [(0, .slice A l.length c), (1, .int .i64 (k : Nat)), (5, q.2.val q.1), (8, .slice A l.length c), (9, .int .i64 l.length), (10, .int .i64 (q.1 : Nat))]) (fun q => q.2.mem (mvC k (l.take q.1)) 59 ++ []) (fun n q => n = l.length - q.1 ∧ q.1 ≤ l.length ∧ q.2.ok 0 5 q.1 (mvC k (l.take q.1)) ∧ q.2.may ⟨25, [], fun _ => False, w⟩) l.length (0, .nil) ⟨rfl, Nat.zero_le _, ⟨rfl, rfl⟩, trivial⟩ ?_) ⟨rfl, rfl, rfl, rfl, rfl, rfl, trivial⟩ rfl
  rintro n ⟨j, r⟩ ⟨rfl, hj, hr, hmr⟩ K hK
  dsimp only at hj hr hmr hK ⊢
  by_cases hlt : j < l.length
  · obtain ⟨x, hx⟩ : ∃ x, l[j]? = some x := ⟨_, List.getElem?_eq_getElem hlt⟩
    obtain ⟨ad, rfl, hc⟩ := hk j x hx
    have hpx := hp x (List.mem_of_getElem? hx)
    have hk2 := fun r' hr' hm' => hK (l.length - (j + 1)) (j + 1, r') (by omega) ⟨rfl, by dsimp only; omega, hr', hm'⟩
    dsimp only at hk2
    rw [mvC_snoc k hx] at hk2
    repeat' (first | refine cseq ?_ | refine rtext ?_ | refine ctrue rfl ?_ | refine cskip ?_ | refine cblk ?_ | refine tnorm ?_ | refine jnil ?_ | (first | (show Jo (some 13) (.load _ _); refine jy (yloadsw (c := tiC x) rfl hc (fun h => h) ag42) rfl rfl ?_) | refine jmv rfl rfl rfl ?_ | (show Jo _ (.fieldAddr _ _ _); refine jy (yfield rfl fb42_1m rfl) rfl rfl ?_) | (show Jo _ (.load _ _); first | refine jy (yload (i := 0) rfl rfl rfl one3) rfl rfl ?_ | refine jy (yloads (i := 0) rfl rfl ag42) rfl rfl ?_) | refine jas_ rfl rfl rfl ?_ | (show Jo _ (.binOp _ _ _ _ _); first | (show Jo (some 23) (.binOp .add _ _ _ _); refine jy (yadd (c := ((j + 1 : Nat) : Int)) rfl rfl (by rw [i64_in (by omega) (by omega)]; omega)) rfl rfl ?_) | (show Jo (some 17) (.binOp .add _ _ _ _); refine jy (yadd (c := ((x.pos + k : Nat) : Int)) rfl rfl (by rw [i64_in (by omega) (by omega)]; omega)) rfl rfl ?_) | refine jy (ylss rfl rfl (by (exact decide_eq_true (by omega)))) rfl rfl ?_) | (show Jo _ (.store _ _ _); first | refine jstores (i := 0) rfl rfl rfl rfl rfl si42 (.inr hT8) ?_ | refine jstore (i := 0) rfl rfl rfl rfl rfl si3 (.inr hT8) ?_) | (show Jo _ (.call _); ((show Jo _ (.call ⟨.builtin .append, _, _⟩); refine jappendP (k := 1) (r := r) (B := 0) (n := j) (xs := mvC k (l.take j)) (news := tiC (mvTi k x)) ([_, _] ++ []) (fun r' => [_, _] ++ (r'.mem (mvC k (l.take j) ++ tiC (mvTi k x)) 59 ++ [])) (perm_row [_, _] (r.mem (mvC k (l.take j)) 59) []) (fun r' => (perm_row [_, _] _ _).symm) rfl rfl (src_blk (i := 0) 0 rfl (add_zero _) (fun j u hj => by rw [show 0 + j = j from Nat.zero_add j]; exact hj)) rfl (tiC_one _) hr (Nat.zero_le _) hmr gr24 (by omega) (by simp only [maxLen]; omega) (by omega) rfl (fun r' hr' hmr' => ?_)))) | (show Jo (some 12) (.indexAddr _ _ _); refine jy (yat (p' := ad.add (5 * j)) rfl rfl und24 sz42 (by omega) (by omega) (by congr 1; omega)) rfl rfl ?_) | (show Jo _ (.alloc _); refine jalloc ze42 rfl (fun g8 hT8 => ?_)) | (show Jo _ (.buildSlice _ 1 _); refine jlit1 (c := tiC (mvTi k x)) rfl rfl rfl gr24 rfl rfl rfl (fun gl hTl => ?_))))
    all_goals exact finS (hk2 r' hr' hmr') ⟨rfl, rfl, rfl, rfl, rfl, rfl, trivial⟩ (List.Sublist.cons _ (List.Sublist.cons _ (List.Sublist.refl _)))
  · obtain rfl : j = l.length := by omega
    rw [List.take_length] at hr ⊢
    repeat' (first | refine cseq ?_ | refine rtext ?_ | refine cfalse rfl ?_ | refine cret ?_ | refine cexit ?_ | refine jnil ?_ | (first | refine jmv rfl rfl rfl ?_ | refine jas_ rfl rfl rfl ?_ | (show Jo _ (.binOp _ _ _ _ _); refine jy (ylss rfl rfl (by (exact decide_eq_false (by omega)))) rfl rfl ?_)))
    all_goals exact ret1 rfl rfl rfl (fun w' hw' => ⟨r, rfl, hw'.1.sub (List.sublist_append_left _ _), ok_up hr hmr, hw'.2.below (fun k _ h => h) (Nat.le_refl _)⟩)
end Go.Proofs.YtkehggbmpdacpabGreatDoor.Pg
