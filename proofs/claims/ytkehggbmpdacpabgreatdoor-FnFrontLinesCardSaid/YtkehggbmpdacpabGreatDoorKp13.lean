/- The page laws: texts that all of them use, joined (part 13): Pg40, Pg41, ShelfBuf, Pg42, Pg43, Pg44, Pg45, Pg46. -/
import Derived.Shelf.LaysM
import Derived.Shelf.Bytes.Bytes
import Derived.Shelf.Bytes.WriteKept
import Derived.Test.YtkehggbmpdacpabGreatDoorProg
import Derived.Test.YtkehggbmpdacpabGreatDoorKp12
set_option maxRecDepth 100000
set_option linter.unusedVariables false
set_option linter.unusedSimpArgs false
set_option linter.unusedSectionVars false
namespace Go.Proofs.YtkehggbmpdacpabGreatDoor.Pg
open Go.Rx hiding bt
open Go.RowKit Go.Proofs.YtkehggbmpdacpabGreatDoor.Dec0 Go.Proofs.YtkehggbmpdacpabGreatDoor.Lex0
theorem one85' : oneB Tryz.prog 75 = true := by kernel_rfl
theorem fb88_0' : fieldB Tryz.prog 78 0 = some 0 := by kernel_rfl
theorem fb88_2' : fieldB Tryz.prog 78 2 = some 2 := by kernel_rfl
theorem fb88_4' : fieldB Tryz.prog 78 4 = some 4 := by kernel_rfl
def IC (ty : Nat) (cs : List Value) : Prop := ∃ er lo hi sg fb st, cs = [.int .i64 (ty : Nat), er, lo, hi, sg, fb, st] ∧ ∀ v ∈ [er, lo, hi, sg, fb, st], v.oneCell' = true
theorem bq73 : bodyB Tryz.prog 59 = true := by kernel_rfl
theorem q73_calls {w : World} {ty : Nat} {cs : List Value} (hc : IC ty cs) : Calls Tryz.prog 59 #[.agg cs.toArray] w fun e w' => e = .returned (.bool (decide (ty = 17))) ∧ Below w.heap.size w w' := by
  obtain ⟨er, lo, hi, sg, fb, st, rfl, h1⟩ := hc
  refine enter (fun _ => False) 6 [] Tryz.func59 rfl rfl rfl (vs := [.agg #[.int .i64 (ty : Nat), er, lo, hi, sg, fb, st]]) (Has.nil _) ?_
  conv => arg 2; arg 2; whnf
  by_cases h : ty = 17
  · repeat' (first | refine cseq ?_ | refine rtext ?_ | refine cret ?_ | refine jnil ?_ | (first | (show Jo _ (.fieldAddr _ _ _); refine jy (yfield rfl fb88_0' rfl) rfl rfl ?_) | (show Jo _ (.load _ _); refine jy (yload (i := 0) rfl rfl rfl one85') rfl rfl ?_) | refine jas_ rfl rfl rfl ?_ | (show Jo _ (.binOp _ _ _ _ _); refine jy (yeql rfl rfl (by (exact decide_eq_true (by omega)))) rfl rfl ?_) | (show Jo _ (.box _ _); refine jbox rfl rfl rfl (fun gb hT => ?_))))
    exact ret1 rfl rfl rfl (fun w' hw' => ⟨by rw [decide_eq_true h], hw'.2.below (fun k _ h => h) (Nat.le_refl _)⟩)
  · repeat' (first | refine cseq ?_ | refine rtext ?_ | refine cret ?_ | refine jnil ?_ | (first | (show Jo _ (.fieldAddr _ _ _); refine jy (yfield rfl fb88_0' rfl) rfl rfl ?_) | (show Jo _ (.load _ _); refine jy (yload (i := 0) rfl rfl rfl one85') rfl rfl ?_) | refine jas_ rfl rfl rfl ?_ | (show Jo _ (.binOp _ _ _ _ _); refine jy (yeql rfl rfl (by (exact decide_eq_false (by omega)))) rfl rfl ?_) | (show Jo _ (.box _ _); refine jbox rfl rfl rfl (fun gb hT => ?_))))
    exact ret1 rfl rfl rfl (fun w' hw' => ⟨by rw [decide_eq_false h], hw'.2.below (fun k _ h => h) (Nat.le_refl _)⟩)
theorem bq75 : bodyB Tryz.prog 61 = true := by kernel_rfl
theorem q75_calls {w : World} {ty : Nat} {cs : List Value} (hc : IC ty cs) : Calls Tryz.prog 61 #[.agg cs.toArray] w fun e w' => e = .returned (.bool (decide (ty = 13))) ∧ Below w.heap.size w w' := by
  obtain ⟨er, lo, hi, sg, fb, st, rfl, h1⟩ := hc
  refine enter (fun _ => False) 6 [] Tryz.func61 rfl rfl rfl (vs := [.agg #[.int .i64 (ty : Nat), er, lo, hi, sg, fb, st]]) (Has.nil _) ?_
  conv => arg 2; arg 2; whnf
  by_cases h : ty = 13
  · repeat' (first | refine cseq ?_ | refine rtext ?_ | refine cret ?_ | refine jnil ?_ | (first | (show Jo _ (.fieldAddr _ _ _); refine jy (yfield rfl fb88_0' rfl) rfl rfl ?_) | (show Jo _ (.load _ _); refine jy (yload (i := 0) rfl rfl rfl one85') rfl rfl ?_) | refine jas_ rfl rfl rfl ?_ | (show Jo _ (.binOp _ _ _ _ _); refine jy (yeql rfl rfl (by (exact decide_eq_true (by omega)))) rfl rfl ?_) | (show Jo _ (.box _ _); refine jbox rfl rfl rfl (fun gb hT => ?_))))
    exact ret1 rfl rfl rfl (fun w' hw' => ⟨by rw [decide_eq_true h], hw'.2.below (fun k _ h => h) (Nat.le_refl _)⟩)
  · repeat' (first | refine cseq ?_ | refine rtext ?_ | refine cret ?_ | refine jnil ?_ | (first | (show Jo _ (.fieldAddr _ _ _); refine jy (yfield rfl fb88_0' rfl) rfl rfl ?_) | (show Jo _ (.load _ _); refine jy (yload (i := 0) rfl rfl rfl one85') rfl rfl ?_) | refine jas_ rfl rfl rfl ?_ | (show Jo _ (.binOp _ _ _ _ _); refine jy (yeql rfl rfl (by (exact decide_eq_false (by omega)))) rfl rfl ?_) | (show Jo _ (.box _ _); refine jbox rfl rfl rfl (fun gb hT => ?_))))
    exact ret1 rfl rfl rfl (fun w' hw' => ⟨by rw [decide_eq_false h], hw'.2.below (fun k _ h => h) (Nat.le_refl _)⟩)
theorem bq76 : bodyB Tryz.prog 62 = true := by kernel_rfl
theorem q76_calls {w : World} {ty : Nat} {cs : List Value} (hc : IC ty cs) : Calls Tryz.prog 62 #[.agg cs.toArray] w fun e w' => e = .returned (.bool (decide (ty = 14))) ∧ Below w.heap.size w w' := by
  obtain ⟨er, lo, hi, sg, fb, st, rfl, h1⟩ := hc
  refine enter (fun _ => False) 6 [] Tryz.func62 rfl rfl rfl (vs := [.agg #[.int .i64 (ty : Nat), er, lo, hi, sg, fb, st]]) (Has.nil _) ?_
  conv => arg 2; arg 2; whnf
  by_cases h : ty = 14
  · repeat' (first | refine cseq ?_ | refine rtext ?_ | refine cret ?_ | refine jnil ?_ | (first | (show Jo _ (.fieldAddr _ _ _); refine jy (yfield rfl fb88_0' rfl) rfl rfl ?_) | (show Jo _ (.load _ _); refine jy (yload (i := 0) rfl rfl rfl one85') rfl rfl ?_) | refine jas_ rfl rfl rfl ?_ | (show Jo _ (.binOp _ _ _ _ _); refine jy (yeql rfl rfl (by (exact decide_eq_true (by omega)))) rfl rfl ?_) | (show Jo _ (.box _ _); refine jbox rfl rfl rfl (fun gb hT => ?_))))
    exact ret1 rfl rfl rfl (fun w' hw' => ⟨by rw [decide_eq_true h], hw'.2.below (fun k _ h => h) (Nat.le_refl _)⟩)
  · repeat' (first | refine cseq ?_ | refine rtext ?_ | refine cret ?_ | refine jnil ?_ | (first | (show Jo _ (.fieldAddr _ _ _); refine jy (yfield rfl fb88_0' rfl) rfl rfl ?_) | (show Jo _ (.load _ _); refine jy (yload (i := 0) rfl rfl rfl one85') rfl rfl ?_) | refine jas_ rfl rfl rfl ?_ | (show Jo _ (.binOp _ _ _ _ _); refine jy (yeql rfl rfl (by (exact decide_eq_false (by omega)))) rfl rfl ?_) | (show Jo _ (.box _ _); refine jbox rfl rfl rfl (fun gb hT => ?_))))
    exact ret1 rfl rfl rfl (fun w' hw' => ⟨by rw [decide_eq_false h], hw'.2.below (fun k _ h => h) (Nat.le_refl _)⟩)
theorem bq77 : bodyB Tryz.prog 63 = true := by kernel_rfl
theorem q77_calls {w : World} {ty : Nat} {cs : List Value} (hc : IC ty cs) : Calls Tryz.prog 63 #[.agg cs.toArray] w fun e w' => e = .returned (.bool (decide (ty = 10 ∨ ty = 8))) ∧ Below w.heap.size w w' := by
  obtain ⟨er, lo, hi, sg, fb, st, rfl, h1⟩ := hc
  refine enter (fun _ => False) 11 [] Tryz.func63 rfl rfl rfl (vs := [.agg #[.int .i64 (ty : Nat), er, lo, hi, sg, fb, st]]) (Has.nil _) ?_
  conv => arg 2; arg 2; whnf
  by_cases h : ty = 10
  · repeat' (first | refine cseq ?_ | refine rtext ?_ | refine cret ?_ | refine jnil ?_ | (first | refine js rfl rfl ?_ | refine jmv rfl rfl rfl ?_ | (show Jo _ (.fieldAddr _ _ _); refine jy (yfield rfl fb88_0' rfl) rfl rfl ?_) | (show Jo _ (.load _ _); refine jy (yload (i := 0) rfl rfl rfl one85') rfl rfl ?_) | refine jas_ rfl rfl rfl ?_ | (show Jo _ (.binOp _ _ _ _ _); refine jy (yeql rfl rfl (by (exact decide_eq_true (by omega)))) rfl rfl ?_) | (show Jo _ (.pick _ _ _); refine jy (ypick1 rfl rfl) rfl rfl ?_) | (show Jo _ (.box _ _); refine jbox rfl rfl rfl (fun gb hT => ?_))))
    exact ret1 rfl rfl rfl (fun w' hw' => ⟨by rw [decide_eq_true (.inl h)], hw'.2.below (fun k _ h => h) (Nat.le_refl _)⟩)
  · by_cases h' : ty = 8
    · repeat' (first | refine cseq ?_ | refine rtext ?_ | refine cret ?_ | refine jnil ?_ | (first | refine jmv rfl rfl rfl ?_ | (show Jo _ (.fieldAddr _ _ _); refine jy (yfield rfl fb88_0' rfl) rfl rfl ?_) | (show Jo _ (.load _ _); refine jy (yload (i := 0) rfl rfl rfl one85') rfl rfl ?_) | refine jas_ rfl rfl rfl ?_ | (show Jo _ (.binOp _ _ _ _ _); (refine jy (yeql rfl rfl (by first | exact decide_eq_true (by omega) | exact decide_eq_false (by omega))) rfl rfl ?_)) | (show Jo _ (.pick _ _ _); refine jy (ypick0 rfl rfl) rfl rfl ?_) | (show Jo _ (.box _ _); refine jbox rfl rfl rfl (fun gb hT => ?_))))
      exact ret1 rfl rfl rfl (fun w' hw' => ⟨by rw [decide_eq_true (.inr h')], hw'.2.below (fun k _ h => h) (Nat.le_refl _)⟩)
    · repeat' (first | refine cseq ?_ | refine rtext ?_ | refine cret ?_ | refine jnil ?_ | (first | refine jmv rfl rfl rfl ?_ | (show Jo _ (.fieldAddr _ _ _); refine jy (yfield rfl fb88_0' rfl) rfl rfl ?_) | (show Jo _ (.load _ _); refine jy (yload (i := 0) rfl rfl rfl one85') rfl rfl ?_) | refine jas_ rfl rfl rfl ?_ | (show Jo _ (.binOp _ _ _ _ _); refine jy (yeql rfl rfl (by (exact decide_eq_false (by omega)))) rfl rfl ?_) | (show Jo _ (.pick _ _ _); refine jy (ypick0 rfl rfl) rfl rfl ?_) | (show Jo _ (.box _ _); refine jbox rfl rfl rfl (fun gb hT => ?_))))
      exact ret1 rfl rfl rfl (fun w' hw' => ⟨by rw [decide_eq_false (fun x => x.elim h h')], hw'.2.below (fun k _ h => h) (Nat.le_refl _)⟩)
theorem bq78 : bodyB Tryz.prog 64 = true := by kernel_rfl
theorem q78_calls {w : World} {ty : Nat} {cs : List Value} (hc : IC ty cs) : Calls Tryz.prog 64 #[.agg cs.toArray] w fun e w' => e = .returned (.bool (decide (ty = 11 ∨ ty = 9))) ∧ Below w.heap.size w w' := by
  obtain ⟨er, lo, hi, sg, fb, st, rfl, h1⟩ := hc
  refine enter (fun _ => False) 11 [] Tryz.func64 rfl rfl rfl (vs := [.agg #[.int .i64 (ty : Nat), er, lo, hi, sg, fb, st]]) (Has.nil _) ?_
  conv => arg 2; arg 2; whnf
  by_cases h : ty = 11
  · repeat' (first | refine cseq ?_ | refine rtext ?_ | refine cret ?_ | refine jnil ?_ | (first | refine js rfl rfl ?_ | refine jmv rfl rfl rfl ?_ | (show Jo _ (.fieldAddr _ _ _); refine jy (yfield rfl fb88_0' rfl) rfl rfl ?_) | (show Jo _ (.load _ _); refine jy (yload (i := 0) rfl rfl rfl one85') rfl rfl ?_) | refine jas_ rfl rfl rfl ?_ | (show Jo _ (.binOp _ _ _ _ _); refine jy (yeql rfl rfl (by (exact decide_eq_true (by omega)))) rfl rfl ?_) | (show Jo _ (.pick _ _ _); refine jy (ypick1 rfl rfl) rfl rfl ?_) | (show Jo _ (.box _ _); refine jbox rfl rfl rfl (fun gb hT => ?_))))
    exact ret1 rfl rfl rfl (fun w' hw' => ⟨by rw [decide_eq_true (.inl h)], hw'.2.below (fun k _ h => h) (Nat.le_refl _)⟩)
  · by_cases h' : ty = 9
    · repeat' (first | refine cseq ?_ | refine rtext ?_ | refine cret ?_ | refine jnil ?_ | (first | refine jmv rfl rfl rfl ?_ | (show Jo _ (.fieldAddr _ _ _); refine jy (yfield rfl fb88_0' rfl) rfl rfl ?_) | (show Jo _ (.load _ _); refine jy (yload (i := 0) rfl rfl rfl one85') rfl rfl ?_) | refine jas_ rfl rfl rfl ?_ | (show Jo _ (.binOp _ _ _ _ _); (refine jy (yeql rfl rfl (by first | exact decide_eq_true (by omega) | exact decide_eq_false (by omega))) rfl rfl ?_)) | (show Jo _ (.pick _ _ _); refine jy (ypick0 rfl rfl) rfl rfl ?_) | (show Jo _ (.box _ _); refine jbox rfl rfl rfl (fun gb hT => ?_))))
      exact ret1 rfl rfl rfl (fun w' hw' => ⟨by rw [decide_eq_true (.inr h')], hw'.2.below (fun k _ h => h) (Nat.le_refl _)⟩)
    · repeat' (first | refine cseq ?_ | refine rtext ?_ | refine cret ?_ | refine jnil ?_ | (first | refine jmv rfl rfl rfl ?_ | (show Jo _ (.fieldAddr _ _ _); refine jy (yfield rfl fb88_0' rfl) rfl rfl ?_) | (show Jo _ (.load _ _); refine jy (yload (i := 0) rfl rfl rfl one85') rfl rfl ?_) | refine jas_ rfl rfl rfl ?_ | (show Jo _ (.binOp _ _ _ _ _); refine jy (yeql rfl rfl (by (exact decide_eq_false (by omega)))) rfl rfl ?_) | (show Jo _ (.pick _ _ _); refine jy (ypick0 rfl rfl) rfl rfl ?_) | (show Jo _ (.box _ _); refine jbox rfl rfl rfl (fun gb hT => ?_))))
      exact ret1 rfl rfl rfl (fun w' hw' => ⟨by rw [decide_eq_false (fun x => x.elim h h')], hw'.2.below (fun k _ h => h) (Nat.le_refl _)⟩)
theorem bq79 : bodyB Tryz.prog 65 = true := by kernel_rfl
theorem q79_calls {w : World} {ty : Nat} {cs : List Value} (hc : IC ty cs) : Calls Tryz.prog 65 #[.agg cs.toArray] w fun e w' => e = .returned (.bool (decide (ty = 12))) ∧ Below w.heap.size w w' := by
  obtain ⟨er, lo, hi, sg, fb, st, rfl, h1⟩ := hc
  refine enter (fun _ => False) 6 [] Tryz.func65 rfl rfl rfl (vs := [.agg #[.int .i64 (ty : Nat), er, lo, hi, sg, fb, st]]) (Has.nil _) ?_
  conv => arg 2; arg 2; whnf
  by_cases h : ty = 12
  · repeat' (first | refine cseq ?_ | refine rtext ?_ | refine cret ?_ | refine jnil ?_ | (first | (show Jo _ (.fieldAddr _ _ _); refine jy (yfield rfl fb88_0' rfl) rfl rfl ?_) | (show Jo _ (.load _ _); refine jy (yload (i := 0) rfl rfl rfl one85') rfl rfl ?_) | refine jas_ rfl rfl rfl ?_ | (show Jo _ (.binOp _ _ _ _ _); refine jy (yeql rfl rfl (by (exact decide_eq_true (by omega)))) rfl rfl ?_) | (show Jo _ (.box _ _); refine jbox rfl rfl rfl (fun gb hT => ?_))))
    exact ret1 rfl rfl rfl (fun w' hw' => ⟨by rw [decide_eq_true h], hw'.2.below (fun k _ h => h) (Nat.le_refl _)⟩)
  · repeat' (first | refine cseq ?_ | refine rtext ?_ | refine cret ?_ | refine jnil ?_ | (first | (show Jo _ (.fieldAddr _ _ _); refine jy (yfield rfl fb88_0' rfl) rfl rfl ?_) | (show Jo _ (.load _ _); refine jy (yload (i := 0) rfl rfl rfl one85') rfl rfl ?_) | refine jas_ rfl rfl rfl ?_ | (show Jo _ (.binOp _ _ _ _ _); refine jy (yeql rfl rfl (by (exact decide_eq_false (by omega)))) rfl rfl ?_) | (show Jo _ (.box _ _); refine jbox rfl rfl rfl (fun gb hT => ?_))))
    exact ret1 rfl rfl rfl (fun w' hw' => ⟨by rw [decide_eq_false h], hw'.2.below (fun k _ h => h) (Nat.le_refl _)⟩)
theorem bq80 : bodyB Tryz.prog 66 = true := by kernel_rfl
theorem q80_calls {w : World} {ty : Nat} {cs : List Value} (hc : IC ty cs) : Calls Tryz.prog 66 #[.agg cs.toArray] w fun e w' => e = .returned (.bool (decide (ty = 15))) ∧ Below w.heap.size w w' := by
  obtain ⟨er, lo, hi, sg, fb, st, rfl, h1⟩ := hc
  refine enter (fun _ => False) 6 [] Tryz.func66 rfl rfl rfl (vs := [.agg #[.int .i64 (ty : Nat), er, lo, hi, sg, fb, st]]) (Has.nil _) ?_
  conv => arg 2; arg 2; whnf
  by_cases h : ty = 15
  · repeat' (first | refine cseq ?_ | refine rtext ?_ | refine cret ?_ | refine jnil ?_ | (first | (show Jo _ (.fieldAddr _ _ _); refine jy (yfield rfl fb88_0' rfl) rfl rfl ?_) | (show Jo _ (.load _ _); refine jy (yload (i := 0) rfl rfl rfl one85') rfl rfl ?_) | refine jas_ rfl rfl rfl ?_ | (show Jo _ (.binOp _ _ _ _ _); refine jy (yeql rfl rfl (by (exact decide_eq_true (by omega)))) rfl rfl ?_) | (show Jo _ (.box _ _); refine jbox rfl rfl rfl (fun gb hT => ?_))))
    exact ret1 rfl rfl rfl (fun w' hw' => ⟨by rw [decide_eq_true h], hw'.2.below (fun k _ h => h) (Nat.le_refl _)⟩)
  · repeat' (first | refine cseq ?_ | refine rtext ?_ | refine cret ?_ | refine jnil ?_ | (first | (show Jo _ (.fieldAddr _ _ _); refine jy (yfield rfl fb88_0' rfl) rfl rfl ?_) | (show Jo _ (.load _ _); refine jy (yload (i := 0) rfl rfl rfl one85') rfl rfl ?_) | refine jas_ rfl rfl rfl ?_ | (show Jo _ (.binOp _ _ _ _ _); refine jy (yeql rfl rfl (by (exact decide_eq_false (by omega)))) rfl rfl ?_) | (show Jo _ (.box _ _); refine jbox rfl rfl rfl (fun gb hT => ?_))))
    exact ret1 rfl rfl rfl (fun w' hw' => ⟨by rw [decide_eq_false h], hw'.2.below (fun k _ h => h) (Nat.le_refl _)⟩)
theorem bq81 : bodyB Tryz.prog 67 = true := by kernel_rfl
theorem q81_calls {w : World} {ty : Nat} {cs : List Value} (hc : IC ty cs) : Calls Tryz.prog 67 #[.agg cs.toArray] w fun e w' => e = .returned (.bool (decide (ty = 16))) ∧ Below w.heap.size w w' := by
  obtain ⟨er, lo, hi, sg, fb, st, rfl, h1⟩ := hc
  refine enter (fun _ => False) 6 [] Tryz.func67 rfl rfl rfl (vs := [.agg #[.int .i64 (ty : Nat), er, lo, hi, sg, fb, st]]) (Has.nil _) ?_
  conv => arg 2; arg 2; whnf
  by_cases h : ty = 16
  · repeat' (first | refine cseq ?_ | refine rtext ?_ | refine cret ?_ | refine jnil ?_ | (first | (show Jo _ (.fieldAddr _ _ _); refine jy (yfield rfl fb88_0' rfl) rfl rfl ?_) | (show Jo _ (.load _ _); refine jy (yload (i := 0) rfl rfl rfl one85') rfl rfl ?_) | refine jas_ rfl rfl rfl ?_ | (show Jo _ (.binOp _ _ _ _ _); refine jy (yeql rfl rfl (by (exact decide_eq_true (by omega)))) rfl rfl ?_) | (show Jo _ (.box _ _); refine jbox rfl rfl rfl (fun gb hT => ?_))))
    exact ret1 rfl rfl rfl (fun w' hw' => ⟨by rw [decide_eq_true h], hw'.2.below (fun k _ h => h) (Nat.le_refl _)⟩)
  · repeat' (first | refine cseq ?_ | refine rtext ?_ | refine cret ?_ | refine jnil ?_ | (first | (show Jo _ (.fieldAddr _ _ _); refine jy (yfield rfl fb88_0' rfl) rfl rfl ?_) | (show Jo _ (.load _ _); refine jy (yload (i := 0) rfl rfl rfl one85') rfl rfl ?_) | refine jas_ rfl rfl rfl ?_ | (show Jo _ (.binOp _ _ _ _ _); refine jy (yeql rfl rfl (by (exact decide_eq_false (by omega)))) rfl rfl ?_) | (show Jo _ (.box _ _); refine jbox rfl rfl rfl (fun gb hT => ?_))))
    exact ret1 rfl rfl rfl (fun w' hw' => ⟨by rw [decide_eq_false h], hw'.2.below (fun k _ h => h) (Nat.le_refl _)⟩)
theorem bq82 : bodyB Tryz.prog 68 = true := by kernel_rfl
theorem q82_calls {w : World} {ty : Nat} {cs : List Value} (hc : IC ty cs) : Calls Tryz.prog 68 #[.agg cs.toArray] w fun e w' => e = .returned (.bool (decide (ty = 10 ∨ ty = 11))) ∧ Below w.heap.size w w' := by
  obtain ⟨er, lo, hi, sg, fb, st, rfl, h1⟩ := hc
  refine enter (fun _ => False) 11 [] Tryz.func68 rfl rfl rfl (vs := [.agg #[.int .i64 (ty : Nat), er, lo, hi, sg, fb, st]]) (Has.nil _) ?_
  conv => arg 2; arg 2; whnf
  by_cases h : ty = 10
  · repeat' (first | refine cseq ?_ | refine rtext ?_ | refine cret ?_ | refine jnil ?_ | (first | refine js rfl rfl ?_ | refine jmv rfl rfl rfl ?_ | (show Jo _ (.fieldAddr _ _ _); refine jy (yfield rfl fb88_0' rfl) rfl rfl ?_) | (show Jo _ (.load _ _); refine jy (yload (i := 0) rfl rfl rfl one85') rfl rfl ?_) | refine jas_ rfl rfl rfl ?_ | (show Jo _ (.binOp _ _ _ _ _); refine jy (yeql rfl rfl (by (exact decide_eq_true (by omega)))) rfl rfl ?_) | (show Jo _ (.pick _ _ _); refine jy (ypick1 rfl rfl) rfl rfl ?_) | (show Jo _ (.box _ _); refine jbox rfl rfl rfl (fun gb hT => ?_))))
    exact ret1 rfl rfl rfl (fun w' hw' => ⟨by rw [decide_eq_true (.inl h)], hw'.2.below (fun k _ h => h) (Nat.le_refl _)⟩)
  · by_cases h' : ty = 11
    · repeat' (first | refine cseq ?_ | refine rtext ?_ | refine cret ?_ | refine jnil ?_ | (first | refine jmv rfl rfl rfl ?_ | (show Jo _ (.fieldAddr _ _ _); refine jy (yfield rfl fb88_0' rfl) rfl rfl ?_) | (show Jo _ (.load _ _); refine jy (yload (i := 0) rfl rfl rfl one85') rfl rfl ?_) | refine jas_ rfl rfl rfl ?_ | (show Jo _ (.binOp _ _ _ _ _); (refine jy (yeql rfl rfl (by first | exact decide_eq_true (by omega) | exact decide_eq_false (by omega))) rfl rfl ?_)) | (show Jo _ (.pick _ _ _); refine jy (ypick0 rfl rfl) rfl rfl ?_) | (show Jo _ (.box _ _); refine jbox rfl rfl rfl (fun gb hT => ?_))))
      exact ret1 rfl rfl rfl (fun w' hw' => ⟨by rw [decide_eq_true (.inr h')], hw'.2.below (fun k _ h => h) (Nat.le_refl _)⟩)
    · repeat' (first | refine cseq ?_ | refine rtext ?_ | refine cret ?_ | refine jnil ?_ | (first | refine jmv rfl rfl rfl ?_ | (show Jo _ (.fieldAddr _ _ _); refine jy (yfield rfl fb88_0' rfl) rfl rfl ?_) | (show Jo _ (.load _ _); refine jy (yload (i := 0) rfl rfl rfl one85') rfl rfl ?_) | refine jas_ rfl rfl rfl ?_ | (show Jo _ (.binOp _ _ _ _ _); refine jy (yeql rfl rfl (by (exact decide_eq_false (by omega)))) rfl rfl ?_) | (show Jo _ (.pick _ _ _); refine jy (ypick0 rfl rfl) rfl rfl ?_) | (show Jo _ (.box _ _); refine jbox rfl rfl rfl (fun gb hT => ?_))))
      exact ret1 rfl rfl rfl (fun w' hw' => ⟨by rw [decide_eq_false (fun x => x.elim h h')], hw'.2.below (fun k _ h => h) (Nat.le_refl _)⟩)
theorem bq85 : bodyB Tryz.prog 71 = true := by kernel_rfl
theorem q85_calls {w : World} {ty : Nat} {cs : List Value} (hc : IC ty cs) : Calls Tryz.prog 71 #[.agg cs.toArray] w fun e w' => e = .returned (.bool (decide (ty = 1))) ∧ Below w.heap.size w w' := by
  obtain ⟨er, lo, hi, sg, fb, st, rfl, h1⟩ := hc
  refine enter (fun _ => False) 6 [] Tryz.func71 rfl rfl rfl (vs := [.agg #[.int .i64 (ty : Nat), er, lo, hi, sg, fb, st]]) (Has.nil _) ?_
  conv => arg 2; arg 2; whnf
  by_cases h : ty = 1
  · repeat' (first | refine cseq ?_ | refine rtext ?_ | refine cret ?_ | refine jnil ?_ | (first | (show Jo _ (.fieldAddr _ _ _); refine jy (yfield rfl fb88_0' rfl) rfl rfl ?_) | (show Jo _ (.load _ _); refine jy (yload (i := 0) rfl rfl rfl one85') rfl rfl ?_) | refine jas_ rfl rfl rfl ?_ | (show Jo _ (.binOp _ _ _ _ _); refine jy (yeql rfl rfl (by (exact decide_eq_true (by omega)))) rfl rfl ?_) | (show Jo _ (.box _ _); refine jbox rfl rfl rfl (fun gb hT => ?_))))
    exact ret1 rfl rfl rfl (fun w' hw' => ⟨by rw [decide_eq_true h], hw'.2.below (fun k _ h => h) (Nat.le_refl _)⟩)
  · repeat' (first | refine cseq ?_ | refine rtext ?_ | refine cret ?_ | refine jnil ?_ | (first | (show Jo _ (.fieldAddr _ _ _); refine jy (yfield rfl fb88_0' rfl) rfl rfl ?_) | (show Jo _ (.load _ _); refine jy (yload (i := 0) rfl rfl rfl one85') rfl rfl ?_) | refine jas_ rfl rfl rfl ?_ | (show Jo _ (.binOp _ _ _ _ _); refine jy (yeql rfl rfl (by (exact decide_eq_false (by omega)))) rfl rfl ?_) | (show Jo _ (.box _ _); refine jbox rfl rfl rfl (fun gb hT => ?_))))
    exact ret1 rfl rfl rfl (fun w' hw' => ⟨by rw [decide_eq_false h], hw'.2.below (fun k _ h => h) (Nat.le_refl _)⟩)
theorem bq86 : bodyB Tryz.prog 72 = true := by kernel_rfl
theorem q86_calls {w : World} {ty : Nat} {cs : List Value} (hc : IC ty cs) : Calls Tryz.prog 72 #[.agg cs.toArray] w fun e w' => e = .returned (.bool (decide (ty = 0))) ∧ Below w.heap.size w w' := by
  obtain ⟨er, lo, hi, sg, fb, st, rfl, h1⟩ := hc
  refine enter (fun _ => False) 6 [] Tryz.func72 rfl rfl rfl (vs := [.agg #[.int .i64 (ty : Nat), er, lo, hi, sg, fb, st]]) (Has.nil _) ?_
  conv => arg 2; arg 2; whnf
  by_cases h : ty = 0
  · repeat' (first | refine cseq ?_ | refine rtext ?_ | refine cret ?_ | refine jnil ?_ | (first | (show Jo _ (.fieldAddr _ _ _); refine jy (yfield rfl fb88_0' rfl) rfl rfl ?_) | (show Jo _ (.load _ _); refine jy (yload (i := 0) rfl rfl rfl one85') rfl rfl ?_) | refine jas_ rfl rfl rfl ?_ | (show Jo _ (.binOp _ _ _ _ _); refine jy (yeql rfl rfl (by (exact decide_eq_true (by omega)))) rfl rfl ?_) | (show Jo _ (.box _ _); refine jbox rfl rfl rfl (fun gb hT => ?_))))
    exact ret1 rfl rfl rfl (fun w' hw' => ⟨by rw [decide_eq_true h], hw'.2.below (fun k _ h => h) (Nat.le_refl _)⟩)
  · repeat' (first | refine cseq ?_ | refine rtext ?_ | refine cret ?_ | refine jnil ?_ | (first | (show Jo _ (.fieldAddr _ _ _); refine jy (yfield rfl fb88_0' rfl) rfl rfl ?_) | (show Jo _ (.load _ _); refine jy (yload (i := 0) rfl rfl rfl one85') rfl rfl ?_) | refine jas_ rfl rfl rfl ?_ | (show Jo _ (.binOp _ _ _ _ _); refine jy (yeql rfl rfl (by (exact decide_eq_false (by omega)))) rfl rfl ?_) | (show Jo _ (.box _ _); refine jbox rfl rfl rfl (fun gb hT => ?_))))
    exact ret1 rfl rfl rfl (fun w' hw' => ⟨by rw [decide_eq_false h], hw'.2.below (fun k _ h => h) (Nat.le_refl _)⟩)
theorem bq83 : bodyB Tryz.prog 69 = true := by kernel_rfl
theorem q83_calls {w : World} {ty : Nat} {cs : List Value} (hc : IC ty cs) : Calls Tryz.prog 69 #[.agg cs.toArray] w fun e w' => e = .returned (.bool (decide (3 ≤ ty ∧ ty ≤ 6))) ∧ Below w.heap.size w w' := by
  obtain ⟨er, lo, hi, sg, fb, st, rfl, h1⟩ := hc
  refine enter (fun _ => False) 11 [] Tryz.func69 rfl rfl rfl (vs := [.agg #[.int .i64 (ty : Nat), er, lo, hi, sg, fb, st]]) (Has.nil _) ?_
  conv => arg 2; arg 2; whnf
  by_cases h : 3 ≤ ty
  · by_cases h' : ty ≤ 6
    · repeat' (first | refine cseq ?_ | refine rtext ?_ | refine cret ?_ | refine jnil ?_ | (first | refine jmv rfl rfl rfl ?_ | (show Jo _ (.fieldAddr _ _ _); refine jy (yfield rfl fb88_0' rfl) rfl rfl ?_) | (show Jo _ (.load _ _); refine jy (yload (i := 0) rfl rfl rfl one85') rfl rfl ?_) | refine jas_ rfl rfl rfl ?_ | (show Jo _ (.binOp _ _ _ _ _); first | (show Jo _ (.binOp .leq _ _ _ _); refine jy (yleq rfl rfl (by (exact decide_eq_true (by omega)))) rfl rfl ?_) | refine jy (ygeq rfl rfl (by (exact decide_eq_true (by omega)))) rfl rfl ?_) | (show Jo _ (.pick _ _ _); refine jy (ypick1 rfl rfl) rfl rfl ?_) | (show Jo _ (.box _ _); refine jbox rfl rfl rfl (fun gb hT => ?_))))
      exact ret1 rfl rfl rfl (fun w' hw' => ⟨by rw [decide_eq_true ⟨h, h'⟩], hw'.2.below (fun k _ h => h) (Nat.le_refl _)⟩)
    · repeat' (first | refine cseq ?_ | refine rtext ?_ | refine cret ?_ | refine jnil ?_ | (first | refine jmv rfl rfl rfl ?_ | (show Jo _ (.fieldAddr _ _ _); refine jy (yfield rfl fb88_0' rfl) rfl rfl ?_) | (show Jo _ (.load _ _); refine jy (yload (i := 0) rfl rfl rfl one85') rfl rfl ?_) | refine jas_ rfl rfl rfl ?_ | (show Jo _ (.binOp _ _ _ _ _); first | (show Jo _ (.binOp .leq _ _ _ _); refine jy (yleq rfl rfl (by (exact decide_eq_false (by omega)))) rfl rfl ?_) | refine jy (ygeq rfl rfl (by (exact decide_eq_true (by omega)))) rfl rfl ?_) | (show Jo _ (.pick _ _ _); refine jy (ypick1 rfl rfl) rfl rfl ?_) | (show Jo _ (.box _ _); refine jbox rfl rfl rfl (fun gb hT => ?_))))
      exact ret1 rfl rfl rfl (fun w' hw' => ⟨by rw [decide_eq_false (fun x => h' x.2)], hw'.2.below (fun k _ h => h) (Nat.le_refl _)⟩)
  · repeat' (first | refine cseq ?_ | refine rtext ?_ | refine cret ?_ | refine jnil ?_ | (first | refine js rfl rfl ?_ | refine jmv rfl rfl rfl ?_ | (show Jo _ (.fieldAddr _ _ _); refine jy (yfield rfl fb88_0' rfl) rfl rfl ?_) | (show Jo _ (.load _ _); refine jy (yload (i := 0) rfl rfl rfl one85') rfl rfl ?_) | refine jas_ rfl rfl rfl ?_ | (show Jo _ (.binOp _ _ _ _ _); refine jy (ygeq rfl rfl (by (exact decide_eq_false (by omega)))) rfl rfl ?_) | (show Jo _ (.pick _ _ _); refine jy (ypick0 rfl rfl) rfl rfl ?_) | (show Jo _ (.box _ _); refine jbox rfl rfl rfl (fun gb hT => ?_))))
    exact ret1 rfl rfl rfl (fun w' hw' => ⟨by rw [decide_eq_false (fun x => h x.1)], hw'.2.below (fun k _ h => h) (Nat.le_refl _)⟩)
theorem bq84 : bodyB Tryz.prog 70 = true := by kernel_rfl
theorem q84_calls {w : World} {ty : Nat} {cs : List Value} (hc : IC ty cs) : Calls Tryz.prog 70 #[.agg cs.toArray] w fun e w' => e = .returned (.bool (decide (ty = 0 ∨ ty = 1))) ∧ Below w.heap.size w w' := by
  have hc0 := hc
  obtain ⟨er, lo, hi, sg, fb, st, hcs, h1⟩ := hc0
  subst hcs
  refine enter (fun _ => False) 9 [] Tryz.func70 rfl rfl rfl (vs := [.agg #[.int .i64 (ty : Nat), er, lo, hi, sg, fb, st]]) (Has.nil _) ?_
  conv => arg 2; arg 2; whnf
  by_cases h : ty = 0
  · repeat' (first | refine cseq ?_ | refine rtext ?_ | refine cret ?_ | refine jnil ?_ | (first | refine js rfl rfl ?_ | refine jmv rfl rfl rfl ?_ | (show Jo _ (.load _ _); refine jy (yloads (i := 0) rfl rfl ag88) rfl rfl ?_) | refine jas_ rfl rfl rfl ?_ | (show Jo _ (.pick _ _ _); refine jy (ypick1 rfl rfl) rfl rfl ?_) | (show Jo _ (.call _); ((show Jo _ (.call ⟨.value (.func 72), _, _⟩); (refine jcallq (v := .bool true) bq86 rfl rfl rfl (quietC fun w' _ => by have := q86_calls (w := w') (ty := ty) hc; rwa [decide_eq_true (by omega)] at this) ?_)))) | (show Jo _ (.box _ _); refine jbox rfl rfl rfl (fun gb hT => ?_))))
    exact ret1 rfl rfl rfl (fun w' hw' => ⟨by rw [decide_eq_true (.inl h)], hw'.2.below (fun k _ h => h) (Nat.le_refl _)⟩)
  · by_cases h' : ty = 1
    · repeat' (first | refine cseq ?_ | refine rtext ?_ | refine cret ?_ | refine jnil ?_ | (first | refine jmv rfl rfl rfl ?_ | (show Jo _ (.load _ _); refine jy (yloads (i := 0) rfl rfl ag88) rfl rfl ?_) | refine jas_ rfl rfl rfl ?_ | (show Jo _ (.pick _ _ _); refine jy (ypick0 rfl rfl) rfl rfl ?_) | (show Jo _ (.call _); first | (show Jo _ (.call ⟨.value (.func 72), _, _⟩); (refine jcallq (v := .bool false) bq86 rfl rfl rfl (quietC fun w' _ => by have := q86_calls (w := w') (ty := ty) hc; rwa [decide_eq_false (by omega)] at this) ?_)) | (show Jo _ (.call ⟨.value (.func 71), _, _⟩); (refine jcallq (v := .bool true) bq85 rfl rfl rfl (quietC fun w' _ => by have := q85_calls (w := w') (ty := ty) hc; rwa [decide_eq_true (by omega)] at this) ?_))) | (show Jo _ (.box _ _); refine jbox rfl rfl rfl (fun gb hT => ?_))))
      exact ret1 rfl rfl rfl (fun w' hw' => ⟨by rw [decide_eq_true (.inr h')], hw'.2.below (fun k _ h => h) (Nat.le_refl _)⟩)
    · repeat' (first | refine cseq ?_ | refine rtext ?_ | refine cret ?_ | refine jnil ?_ | (first | refine jmv rfl rfl rfl ?_ | (show Jo _ (.load _ _); refine jy (yloads (i := 0) rfl rfl ag88) rfl rfl ?_) | refine jas_ rfl rfl rfl ?_ | (show Jo _ (.pick _ _ _); refine jy (ypick0 rfl rfl) rfl rfl ?_) | (show Jo _ (.call _); first | (show Jo _ (.call ⟨.value (.func 72), _, _⟩); (refine jcallq (v := .bool false) bq86 rfl rfl rfl (quietC fun w' _ => by have := q86_calls (w := w') (ty := ty) hc; rwa [decide_eq_false (by omega)] at this) ?_)) | (show Jo _ (.call ⟨.value (.func 71), _, _⟩); (refine jcallq (v := .bool false) bq85 rfl rfl rfl (quietC fun w' _ => by have := q85_calls (w := w') (ty := ty) hc; rwa [decide_eq_false (by omega)] at this) ?_))) | (show Jo _ (.box _ _); refine jbox rfl rfl rfl (fun gb hT => ?_))))
      exact ret1 rfl rfl rfl (fun w' hw' => ⟨by rw [decide_eq_false (fun x => x.elim h h')], hw'.2.below (fun k _ h => h) (Nat.le_refl _)⟩)
theorem bq72 : bodyB Tryz.prog 58 = true := by kernel_rfl
theorem q72_calls {w : World} {ty : Nat} {cs : List Value} (hc : IC ty cs) : Calls Tryz.prog 58 #[.agg cs.toArray] w fun e w' => e = .returned (.bool (decide (ty = 18 ∨ ty = 17))) ∧ Below w.heap.size w w' := by
  have hc0 := hc
  obtain ⟨er, lo, hi, sg, fb, st, hcs, h1⟩ := hc0
  subst hcs
  refine enter (fun _ => False) 10 [] Tryz.func58 rfl rfl rfl (vs := [.agg #[.int .i64 (ty : Nat), er, lo, hi, sg, fb, st]]) (Has.nil _) ?_
  conv => arg 2; arg 2; whnf
  by_cases h : ty = 18
  · repeat' (first | refine cseq ?_ | refine rtext ?_ | refine cret ?_ | refine jnil ?_ | (first | refine js rfl rfl ?_ | refine jmv rfl rfl rfl ?_ | (show Jo _ (.fieldAddr _ _ _); refine jy (yfield rfl fb88_0' rfl) rfl rfl ?_) | (show Jo _ (.load _ _); refine jy (yload (i := 0) rfl rfl rfl one85') rfl rfl ?_) | refine jas_ rfl rfl rfl ?_ | (show Jo _ (.binOp _ _ _ _ _); refine jy (yeql rfl rfl (by (exact decide_eq_true (by omega)))) rfl rfl ?_) | (show Jo _ (.pick _ _ _); refine jy (ypick1 rfl rfl) rfl rfl ?_) | (show Jo _ (.box _ _); refine jbox rfl rfl rfl (fun gb hT => ?_))))
    exact ret1 rfl rfl rfl (fun w' hw' => ⟨by rw [decide_eq_true (.inl h)], hw'.2.below (fun k _ h => h) (Nat.le_refl _)⟩)
  · by_cases h' : ty = 17
    · repeat' (first | refine cseq ?_ | refine rtext ?_ | refine cret ?_ | refine jnil ?_ | (first | refine jmv rfl rfl rfl ?_ | (show Jo _ (.fieldAddr _ _ _); refine jy (yfield rfl fb88_0' rfl) rfl rfl ?_) | (show Jo _ (.load _ _); first | refine jy (yload (i := 0) rfl rfl rfl one85') rfl rfl ?_ | refine jy (yloads (i := 0) rfl rfl ag88) rfl rfl ?_) | refine jas_ rfl rfl rfl ?_ | (show Jo _ (.binOp _ _ _ _ _); refine jy (yeql rfl rfl (by (exact decide_eq_false (by omega)))) rfl rfl ?_) | (show Jo _ (.pick _ _ _); refine jy (ypick0 rfl rfl) rfl rfl ?_) | (show Jo _ (.call _); ((show Jo _ (.call ⟨.value (.func 59), _, _⟩); (refine jcallq (v := .bool true) bq73 rfl rfl rfl (quietC fun w' _ => by have := q73_calls (w := w') (ty := ty) hc; rwa [decide_eq_true (by omega)] at this) ?_)))) | (show Jo _ (.box _ _); refine jbox rfl rfl rfl (fun gb hT => ?_))))
      exact ret1 rfl rfl rfl (fun w' hw' => ⟨by rw [decide_eq_true (.inr h')], hw'.2.below (fun k _ h => h) (Nat.le_refl _)⟩)
    · repeat' (first | refine cseq ?_ | refine rtext ?_ | refine cret ?_ | refine jnil ?_ | (first | refine jmv rfl rfl rfl ?_ | (show Jo _ (.fieldAddr _ _ _); refine jy (yfield rfl fb88_0' rfl) rfl rfl ?_) | (show Jo _ (.load _ _); first | refine jy (yload (i := 0) rfl rfl rfl one85') rfl rfl ?_ | refine jy (yloads (i := 0) rfl rfl ag88) rfl rfl ?_) | refine jas_ rfl rfl rfl ?_ | (show Jo _ (.binOp _ _ _ _ _); refine jy (yeql rfl rfl (by (exact decide_eq_false (by omega)))) rfl rfl ?_) | (show Jo _ (.pick _ _ _); refine jy (ypick0 rfl rfl) rfl rfl ?_) | (show Jo _ (.call _); ((show Jo _ (.call ⟨.value (.func 59), _, _⟩); (refine jcallq (v := .bool false) bq73 rfl rfl rfl (quietC fun w' _ => by have := q73_calls (w := w') (ty := ty) hc; rwa [decide_eq_false (by omega)] at this) ?_)))) | (show Jo _ (.box _ _); refine jbox rfl rfl rfl (fun gb hT => ?_))))
      exact ret1 rfl rfl rfl (fun w' hw' => ⟨by rw [decide_eq_false (fun x => x.elim h h')], hw'.2.below (fun k _ h => h) (Nat.le_refl _)⟩)
theorem bo107 : bodyB Tryz.prog 87 = true := by kernel_rfl
theorem fb88_3' : fieldB Tryz.prog 78 3 = some 3 := by kernel_rfl
theorem fb126_0' : fieldB Tryz.prog 104 0 = some 0 := by kernel_rfl
theorem fb126_1' : fieldB Tryz.prog 104 1 = some 1 := by kernel_rfl
theorem sz126' : szB Tryz.prog 104 2 = true := by kernel_rfl
theorem und86' : Tryz.prog.underlying 76 = some (.slice 104) := by kernel_rfl
def SegW (w : World) (sg : Value) (segs : List (Nat × Nat)) : Prop := (segs = [] ∧ sg = .slice none 0 0) ∨ ∃ A cap, segs ≠ [] ∧ sg = .slice (some A) segs.length cap ∧ ∀ (j : Nat) u, (segC segs)[j]? = some u → w.cell? (A.add j) = some u
theorem val0_calls {w : World} {s : T} {b o c ty lo hi fb : Nat} {er st : Value} (h1 : er.oneCell' = true) (h2 : st.oneCell' = true) (hB : Byt w (.slice (some ⟨b, o, none⟩) s.length c) s) (hlo : lo ≤ hi) (hhi : hi ≤ s.length) :
    Calls Tryz.prog 87 #[.agg #[.int .i64 (ty : Nat), er, .int .i64 (lo : Nat), .int .i64 (hi : Nat), .slice none 0 0, .int .u8 (fb : Nat), st], .slice (some ⟨b, o, none⟩) s.length c] w fun e w' => ∃ v', e = .returned v' ∧ Byt w' v' (cut s lo hi) ∧ Below w.heap.size w w' := by
  have hcap : s.length ≤ c := by obtain ⟨b', o', c', he, hc, _⟩ := hB; cases he; exact hc
  refine enter (fun _ => False) 50 [] Tryz.func87 rfl rfl rfl (vs := [.agg #[.int .i64 (ty : Nat), er, .int .i64 (lo : Nat), .int .i64 (hi : Nat), .slice none 0 0, .int .u8 (fb : Nat), st], .slice (some ⟨b, o, none⟩) s.length c]) (Has.nil _) ?_
  conv => arg 2; arg 2; whnf
  repeat' (first | refine cseq ?_ | refine rtext ?_ | refine ctrue rfl ?_ | refine cret ?_ | refine tret ?_ | refine jnil ?_ | (first | refine jmv rfl rfl rfl ?_ | (show Jo _ (.fieldAddr _ _ _); refine jy (yfield rfl (by first | exact fb88_2' | exact fb88_3' | exact fb88_4') rfl) rfl rfl ?_) | (show Jo _ (.load _ _); refine jy (yload (i := 0) rfl rfl rfl one3) rfl rfl ?_) | refine jas_ rfl rfl rfl ?_ | (show Jo _ (.binOp _ _ _ _ _); refine jy (yeql rfl rfl (by (exact decide_eq_true (by omega)))) rfl rfl ?_) | (show Jo _ (.call _); ((show Jo _ (.call ⟨.builtin .len, _, _⟩); refine jy (ylenl rfl und86') rfl rfl ?_))) | (show Jo _ (.box _ _); refine jbox rfl rfl rfl (fun gb hT => ?_)) | (show Jo _ (.slice 62 _ (some _) (some _) none); refine jy (yslLH (n := lo) (n' := hi) (kk := hi - lo) rfl rfl rfl und59 sz5 rfl rfl hlo (by omega) rfl rfl rfl) rfl rfl ?_)))
  exact ret1 rfl rfl rfl (fun w' hw' => ⟨_, rfl, (hB.sub lo (hi - lo) (by omega)).below (hw'.2.below (fun k _ h => h) (Nat.le_refl _)) (Nat.le_refl _), hw'.2.below (fun k _ h => h) (Nat.le_refl _)⟩)
theorem val1_calls {w : World} {s : T} {b o c ty l0 h0 lo hi fb cap : Nat} {A : Addr} {er st : Value} (h1 : er.oneCell' = true) (h2 : st.oneCell' = true) (hB : Byt w (.slice (some ⟨b, o, none⟩) s.length c) s) (hlo : lo ≤ hi) (hhi : hi ≤ s.length)
    (hA0 : w.cell? (A.add 0) = some (.int .i64 lo)) (hA1 : w.cell? (A.add 1) = some (.int .i64 hi)) :
    Calls Tryz.prog 87 #[.agg #[.int .i64 (ty : Nat), er, .int .i64 (l0 : Nat), .int .i64 (h0 : Nat), .slice (some A) 1 cap, .int .u8 (fb : Nat), st], .slice (some ⟨b, o, none⟩) s.length c] w fun e w' => ∃ v', e = .returned v' ∧ Byt w' v' (cut s lo hi) ∧ Below w.heap.size w w' := by
  have hcap : s.length ≤ c := by obtain ⟨b', o', c', he, hc, _⟩ := hB; cases he; exact hc
  refine enter (fun _ => False) 50 [] Tryz.func87 rfl rfl rfl (vs := [.agg #[.int .i64 (ty : Nat), er, .int .i64 (l0 : Nat), .int .i64 (h0 : Nat), .slice (some A) 1 cap, .int .u8 (fb : Nat), st], .slice (some ⟨b, o, none⟩) s.length c]) (Has.nil _) ?_
  conv => arg 2; arg 2; whnf
  repeat' (first | (show PJ _ (Code.wp _ _ _) _ _; first | refine cseq ?_ | refine rtext ?_ | refine ctrue rfl ?_ | refine cfalse rfl ?_ | refine cskip ?_ | refine cret ?_ | refine rquiet mixed (by kernel_rfl) ?_) | refine tret ?_ | refine jnil ?_ | (first | refine jmv rfl rfl rfl ?_ | (show Jo _ (.fieldAddr _ _ _); refine jy (yfield rfl (by first | exact fb88_0' | exact fb88_4' | exact fb126_1') rfl) rfl rfl ?_) | (show Jo _ (.load _ _); first | refine jy (yload (i := 0) rfl rfl rfl one3) rfl rfl ?_ | refine jy (yloadw rfl hA0 (fun h => h) one3) rfl rfl ?_ | refine jy (yloadw rfl hA1 (fun h => h) one3) rfl rfl ?_) | refine jas_ rfl rfl rfl ?_ | (show Jo _ (.binOp _ _ _ _ _); (refine jy (yeql rfl rfl (by first | exact decide_eq_true (by omega) | exact decide_eq_false (by omega))) rfl rfl ?_)) | (show Jo _ (.call _); ((show Jo _ (.call ⟨.builtin .len, _, _⟩); refine jy (ylenl rfl und86') rfl rfl ?_))) | (show Jo _ (.box _ _); refine jbox rfl rfl rfl (fun gb hT => ?_)) | (show Jo _ (.slice 62 _ (some _) (some _) none); refine jy (yslLH (n := lo) (n' := hi) (kk := hi - lo) rfl rfl rfl und59 sz5 rfl rfl hlo (by omega) rfl rfl rfl) rfl rfl ?_) | (show Jo _ (.indexAddr 76 _ _); refine jy (yat (p' := A.add 0) rfl rfl und86' sz126' (by omega) (by omega) rfl) rfl rfl ?_) | (show Jo _ (.fieldAddr 104 _ 0); refine jy (yfieldA (p' := A.add 0) rfl fb126_0' (by rw [add_add])) rfl rfl ?_) | (show Jo _ (.fieldAddr 104 _ 1); refine jy (yfieldA (p' := A.add 1) rfl fb126_1' (by rw [add_add])) rfl rfl ?_)))
  exact ret1 rfl rfl rfl (fun w' hw' => ⟨_, rfl, (hB.sub lo (hi - lo) (by omega)).below (hw'.2.below (fun k _ h => h) (Nat.le_refl _)) (Nat.le_refl _), hw'.2.below (fun k _ h => h) (Nat.le_refl _)⟩)
end Go.Proofs.YtkehggbmpdacpabGreatDoor.Pg
namespace Go.Proofs
open Go.Shelf
def Tryz.laysM183_ren : Go.Shelf.Ren := ⟨fun | 183 => 103 | n => n, fun | 130 => 138 | 37 => 62 | 0 => 0 | 93 => 125 | 3 => 3 | 5 => 5 | 91 => 123 | n => n, fun | n => n⟩
theorem Tryz.laysM183 : Go.Proofs.LaysM.n183 Tryz.prog Tryz.laysM183_ren := {
  mixed := by kernel_rfl
  f183 := Tryz.func103.trans (congrArg some (by kernel_rfl))
  t0 := Tryz.underlying0
  a0 := Tryz.isAgg0
  z0 := Tryz.sizeOf0
  v0 := Tryz.zeroValue0
  t3 := Tryz.underlying3
  a3 := Tryz.isAgg3
  z3 := Tryz.sizeOf3
  v3 := Tryz.zeroValue3
  t37 := Tryz.underlying62
  a37 := Tryz.isAgg62
  z37 := Tryz.sizeOf62
  v37 := Tryz.zeroValue62
  t93 := Tryz.underlying125
  a93 := Tryz.isAgg125
  z93 := Tryz.sizeOf125
  v93 := Tryz.zeroValue125
  t130 := Tryz.underlying138
  a130 := Tryz.isAgg138
  z130 := Tryz.sizeOf138
  v130 := Tryz.zeroValue138
  t5 := Tryz.underlying5
  a5 := Tryz.isAgg5
  z5 := Tryz.sizeOf5
  v5 := Tryz.zeroValue5
  t91 := Tryz.underlying123
  a91 := Tryz.isAgg123
  z91 := Tryz.sizeOf123
  v91 := Tryz.zeroValue123
  i0 := by kernel_rfl
  i3 := by kernel_rfl
  i5 := by kernel_rfl
  i37 := by kernel_rfl
  i91 := by kernel_rfl
  i93 := by kernel_rfl
  i130 := by kernel_rfl }
open Go.RowKit in
theorem Tryz.Buffer_Bytes (B b : Nat) (bs : List Value) (w : World) (h : Lib.IsBuffer 125 5 B b bs w) :
    Calls Tryz.prog 103 #[.pointer (some ⟨b, 0, none⟩)] w fun e w' => ∃ v, e = .returned v ∧ w'.ownsRow B 5 1 v bs.length bs ∧ ∃ n, w' = w.drewN n := Any.Buffer_Bytes Tryz.laysM183 B b bs w h
def Tryz.laysM180_ren : Go.Shelf.Ren := ⟨fun | 180 => 102 | 251 => 123 | 252 => 124 | 181 => 138 | 184 => 139 | 290 => 140 | 324 => 156 | n => n, fun | 130 => 138 | 37 => 62 | 3 => 3 | 75 => 69 | 0 => 0 | 93 => 125 | 91 => 123 | 131 => 139 | 4 => 4 | 20 => 20 | 5 => 5 | 80 => 173 | 9 => 9 | n => n, fun | 14 => 4 | n => n⟩
theorem Tryz.laysM180 : Go.Proofs.LaysM.n180 Tryz.prog Tryz.laysM180_ren := {
  mixed := by kernel_rfl
  f180 := Tryz.func102.trans (congrArg some (by kernel_rfl))
  f181 := Tryz.func138.trans (congrArg some (by kernel_rfl))
  f184 := Tryz.func139.trans (congrArg some (by kernel_rfl))
  f251 := Tryz.func123.trans (congrArg some (by kernel_rfl))
  f252 := Tryz.func124.trans (congrArg some (by kernel_rfl))
  f290 := Tryz.func140.trans (congrArg some (by kernel_rfl))
  f324 := Tryz.func156.trans (congrArg some (by kernel_rfl))
  t0 := Tryz.underlying0
  a0 := Tryz.isAgg0
  z0 := Tryz.sizeOf0
  v0 := Tryz.zeroValue0
  t3 := Tryz.underlying3
  a3 := Tryz.isAgg3
  z3 := Tryz.sizeOf3
  v3 := Tryz.zeroValue3
  t4 := Tryz.underlying4
  a4 := Tryz.isAgg4
  z4 := Tryz.sizeOf4
  v4 := Tryz.zeroValue4
  t20 := Tryz.underlying20
  a20 := Tryz.isAgg20
  z20 := Tryz.sizeOf20
  v20 := Tryz.zeroValue20
  t37 := Tryz.underlying62
  a37 := Tryz.isAgg62
  z37 := Tryz.sizeOf62
  v37 := Tryz.zeroValue62
  t75 := Tryz.underlying69
  a75 := Tryz.isAgg69
  z75 := Tryz.sizeOf69
  v75 := Tryz.zeroValue69
  t91 := Tryz.underlying123
  a91 := Tryz.isAgg123
  z91 := Tryz.sizeOf123
  v91 := Tryz.zeroValue123
  t93 := Tryz.underlying125
  a93 := Tryz.isAgg125
  z93 := Tryz.sizeOf125
  v93 := Tryz.zeroValue125
  t130 := Tryz.underlying138
  a130 := Tryz.isAgg138
  z130 := Tryz.sizeOf138
  v130 := Tryz.zeroValue138
  t131 := Tryz.underlying139
  a131 := Tryz.isAgg139
  z131 := Tryz.sizeOf139
  v131 := Tryz.zeroValue139
  g14 := by kernel_rfl
  t5 := Tryz.underlying5
  a5 := Tryz.isAgg5
  z5 := Tryz.sizeOf5
  v5 := Tryz.zeroValue5
  t9 := Tryz.underlying9
  a9 := Tryz.isAgg9
  z9 := Tryz.sizeOf9
  v9 := Tryz.zeroValue9
  t80 := Tryz.underlying173
  a80 := Tryz.isAgg173
  z80 := Tryz.sizeOf173
  v80 := Tryz.zeroValue173
  i0 := by kernel_rfl
  i3 := by kernel_rfl
  i4 := by kernel_rfl
  i5 := by kernel_rfl
  i9 := by kernel_rfl
  i20 := by kernel_rfl
  i37 := by kernel_rfl
  i75 := by kernel_rfl
  i80 := by kernel_rfl
  i91 := by kernel_rfl
  i93 := by kernel_rfl
  i130 := by kernel_rfl
  i131 := by kernel_rfl
  m14 := by kernel_rfl }
open Go.RowKit in
theorem Tryz.Buffer_Write_kept (B b : Nat) (bs cs : List Value) (a : Addr) (n c : Nat) (w : World) (h : Lib.IsBuffer 125 5 B b bs w) (hBw : B ≤ w.heap.size) (h1 : ∀ v ∈ bs, v.oneCell' = true) (hn : cs.length = n) (haB : a.block < B) (hsrc : ∀ j v, cs[j]? = some v → w.cell? (a.add j) = some v) (h1c : ∀ v ∈ cs, v.oneCell' = true) (hlim : bs.length + n ≤ 140737488355328) :
    Calls Tryz.prog 102 #[.pointer (some ⟨b, 0, none⟩), .slice (some a) n c] w fun e w' => e = .returned (.tuple #[.int .i64 n, .nilIface]) ∧ Lib.IsBuffer 125 5 B b (bs ++ cs) w' ∧ Below B w w' ∧ Lib.OthersKept 5 (some b) w w' := Any.Buffer_Write_kept Tryz.laysM180 B b bs cs a n c w h hBw h1 hn haB hsrc h1c hlim
end Go.Proofs
namespace Go.Proofs.YtkehggbmpdacpabGreatDoor.Pg
open Go.Rx hiding bt
open Go.RowKit Go.Proofs.YtkehggbmpdacpabGreatDoor.Dec0 Go.Proofs.YtkehggbmpdacpabGreatDoor.Lex0
theorem bo124 : bodyB Tryz.prog 102 = true := by kernel_rfl
theorem bo125 : bodyB Tryz.prog 103 = true := by kernel_rfl
def bufB (gb : Nat) (v : Value) (lr : Int) : Nat × List Value × Bk := (gb, [v, .int .i64 0, .int .i8 lr], Bk.c 125)
def bufM (gb : Nat) (r : Row) (bs : List Value) (lr : Int) (E : Mem) : Mem := bufB gb (r.val bs.length) lr :: (r.mem bs 5 ++ E)
def NoB (E : Mem) : Prop := ∀ x ∈ E, ∃ t, x.2.2 = Bk.c t ∧ t ≠ 5
theorem isBuf {B gb : Nat} {r : Row} {bs : List Value} {lr : Int} {E : Mem} {w : World} (h : Has (bufM gb r bs lr E) w) (hB : B ≤ gb) (hr : r.ok B 1 bs.length bs) : Lib.IsBuffer 125 5 B gb bs w := by
  have h0 : w.heap[gb]? = some (.cells #[r.val bs.length, .int .i64 0, .int .i8 lr] 125 (0, 0)) := h.blk _ (List.mem_cons_self ..)
  refine ⟨hB, r.val bs.length, lr, h0, ?_, ?_⟩
  · have hp : Has ((bufB gb (r.val bs.length) lr :: E) ++ r.mem bs 5) w := h.perm (List.Perm.cons _ List.perm_append_comm)
    exact Row.owns hr hp
  · cases r with
    | nil => simp [Row.val, Value.ownBlock]
    | «at» g cap rr =>
      have := h.ne
      simp only [bufM, bufB, Row.mem, List.map_cons, List.cons_append, List.nil_append, List.nodup_cons, List.mem_cons, not_or] at this
      simp only [Row.val, Value.ownBlock, ne_eq, Option.some.injEq]
      exact fun e => this.1.1 e.symm
theorem buf_of {B gb : Nat} {r : Row} {bs bs' : List Value} {lr : Int} {E : Mem} {w w' : World} (h : Has (bufM gb r bs lr E) w) (hE : NoB E) (hk : Lib.OthersKept 5 (some gb) w w') (hb : Lib.IsBuffer 125 5 B gb bs' w') : ∃ (r' : Row) (lr' : Int), Has (bufM gb r' bs' lr' E) w' ∧ r'.ok B 1 bs'.length bs' := by
  obtain ⟨_, v, lr', h1, h2, h3⟩ := hb
  obtain ⟨r', rfl, hr', hm⟩ := Row.of_owns h2
  have hEk : ∀ x ∈ E, BlkAt w' x.1 x.2.1 x.2.2 := fun x hx => by
    obtain ⟨t, ht, hne⟩ := hE x hx
    have h4 := h.blk x (List.mem_cons_of_mem _ (List.mem_append_right _ hx))
    rw [ht] at h4 ⊢
    refine hk x.1 _ h4 ?_ (fun c fz e => ?_)
    · have := h.ne
      simp only [bufM, bufB, List.map_cons, List.nodup_cons, List.map_append, List.mem_append, not_or] at this
      intro e
      rw [Option.some.injEq] at e
      exact this.1.2 (List.mem_map.2 ⟨x, hx, e⟩)
    · injection e with _ e2 _
      exact hne e2
  refine ⟨r', lr', ⟨?_, fun x hx => ?_⟩, hr'⟩
  · have hn := h.ne
    simp only [bufM, bufB, List.map_cons, List.nodup_cons, List.map_append, List.mem_append, not_or] at hn ⊢
    have hEn : (E.map (·.1)).Nodup := (List.nodup_append.1 hn.2).2.1
    refine ⟨⟨?_, hn.1.2⟩, ?_⟩
    · cases r' with
      | nil => simp [Row.mem]
      | «at» g cap rr =>
        simp only [Row.val, Value.ownBlock, ne_eq, Option.some.injEq] at h3
        simp only [Row.mem, List.map_cons, List.map_nil, List.mem_singleton]
        exact fun e => h3 e.symm
    · cases r' with
      | nil => simpa [Row.mem] using hEn
      | «at» g cap rr =>
        simp only [Row.mem, List.map_cons, List.map_nil, List.singleton_append, List.nodup_cons]
        refine ⟨fun hg => ?_, hEn⟩
        obtain ⟨x, hx, e⟩ := List.mem_map.1 hg
        obtain ⟨t, ht, hne⟩ := hE x hx
        have h5 := hEk x hx
        rw [ht, e] at h5
        have h6 : w'.heap[g]? = some (.cells (bs' ++ rr).toArray 5 (0, 0)) := hm (g, bs' ++ rr, Bk.c 5) (List.mem_singleton.2 rfl)
        have h7 : w'.heap[g]? = some (.cells x.2.1.toArray t (0, 0)) := h5
        rw [h6] at h7
        injection h7 with h7
        injection h7 with _ h8 _
        exact hne h8.symm
  · rcases List.mem_cons.1 hx with rfl | hx
    · exact h1
    · rcases List.mem_append.1 hx with hx | hx
      · exact hm x hx
      · exact hEk x hx
theorem write_calls {X : Cx} {gb : Nat} {r : Row} {bs cs : List Value} {lr : Int} {E : Mem} {a : Addr} {n c : Nat} (hE : NoB E) (hgb : X.w0.heap.size ≤ gb) (hr : r.ok X.w0.heap.size 1 bs.length bs) (h1 : ∀ v ∈ bs, v.oneCell' = true) (hn : cs.length = n) (ha : a.block < X.w0.heap.size) (hS : ¬ X.S a.block) (hsrc : ∀ (j : Nat) v, cs[j]? = some v → X.w0.cell? (a.add j) = some v) (h1c : ∀ v ∈ cs, v.oneCell' = true) (hlim : bs.length + n ≤ 140737488355328) :
    ∀ w, Cl X (bufM gb r bs lr E) w → Calls Tryz.prog 102 #[.pointer (some ⟨gb, 0, none⟩), .slice (some a) n c] w fun e w' => ∃ i : Row × Int, e = .returned (.tuple #[.int .i64 n, .nilIface]) ∧ Cl X (bufM gb i.1 (bs ++ cs) i.2 E) w' ∧ i.1.ok X.w0.heap.size 1 (bs ++ cs).length (bs ++ cs) := by
  intro w hw
  refine (Tryz.Buffer_Write_kept X.w0.heap.size gb bs cs a n c w (isBuf hw.1 hgb hr) hw.2.size h1 hn ha (fun j v hj => ?_) h1c hlim).mono fun e w' ⟨e1, e2, e3, e4⟩ => ?_
  · exact Go.Rx.cell_evo hw.2 (by rw [add_block]; exact hS) (hsrc j v hj)
  · obtain ⟨r', lr', h5, h6⟩ := buf_of hw.1 hE e4 e2
    refine ⟨(r', lr'), e1, ⟨h5, ?_⟩, h6⟩
    have h7 : Evo X.S X.w0 w := hw.2
    exact ⟨e3.os.trans h7.os, e3.tape.trans h7.tape, e3.output.trans h7.output, Nat.le_trans h7.size e3.size, fun k hk hs => (e3.block k hk).trans (h7.block k hk hs)⟩
theorem bufBytes_calls {X : Cx} {gb : Nat} {r : Row} {bs : List Value} {lr : Int} {E : Mem} (hE : NoB E) (hgb : X.w0.heap.size ≤ gb) (hr : r.ok X.w0.heap.size 1 bs.length bs) :
    ∀ w, Cl X (bufM gb r bs lr E) w → Calls Tryz.prog 103 #[.pointer (some ⟨gb, 0, none⟩)] w fun e w' => ∃ r' : Row, e = .returned (r'.val bs.length) ∧ Cl X (r'.mem bs 5) w' ∧ r'.ok X.w0.heap.size 1 bs.length bs := by
  intro w hw
  refine (Tryz.Buffer_Bytes X.w0.heap.size gb bs w (isBuf hw.1 hgb hr)).mono fun e w' ⟨v, e1, e2, n, e3⟩ => ?_
  obtain ⟨r', rfl, h2, h3⟩ := Row.of_owns e2
  refine ⟨r', e1, ⟨⟨?_, h3⟩, ?_⟩, h2⟩
  · cases r' <;> simp [Row.mem]
  · subst e3
    have h7 : Evo X.S X.w0 w := hw.2
    exact ⟨h7.os, h7.tape, h7.output, h7.size, h7.block⟩
def SegCh (n : Nat) : Nat → List (Nat × Nat) → Prop
  | a, [] => a ≤ n
  | a, p :: r => a ≤ p.1 ∧ p.1 ≤ p.2 ∧ SegCh n p.2 r
theorem SegCh.le {n : Nat} : ∀ {segs : List (Nat × Nat)} {a : Nat}, SegCh n a segs → a ≤ n
  | [], a, h => h
  | p :: r, a, h => by have := SegCh.le h.2.2; have := h.1; have := h.2.1; omega
theorem SegCh.mem {n : Nat} : ∀ {segs : List (Nat × Nat)} {a : Nat}, SegCh n a segs → ∀ p ∈ segs, p.1 ≤ p.2 ∧ p.2 ≤ n
  | [], a, h, p, hp => by cases hp
  | q :: r, a, h, p, hp => by
    rcases List.mem_cons.1 hp with rfl | hp
    · exact ⟨h.2.1, SegCh.le h.2.2⟩
    · exact SegCh.mem h.2.2 p hp
def segT (s : T) (segs : List (Nat × Nat)) : T := segs.flatMap fun p => cut s p.1 p.2
theorem segT_len {s : T} : ∀ {segs : List (Nat × Nat)} {a : Nat}, SegCh s.length a segs → (segT s segs).length + a ≤ s.length
  | [], a, h => by
    show 0 + a ≤ _
    have : a ≤ s.length := h
    omega
  | p :: r, a, h => by
    have h1 := segT_len h.2.2
    have h2 := SegCh.le h.2.2
    have h3 := h.1
    have h4 := h.2.1
    unfold segT at h1 ⊢
    rw [List.flatMap_cons, List.length_append, cut_len h2]
    omega
theorem segT_take {s : T} {segs : List (Nat × Nat)} {j : Nat} {p : Nat × Nat} (h : segs[j]? = some p) : segT s (segs.take (j + 1)) = segT s (segs.take j) ++ cut s p.1 p.2 := by
  obtain ⟨hlt, he⟩ := List.getElem?_eq_some_iff.1 h
  unfold segT
  rw [← List.take_append_getElem hlt, List.flatMap_append, he]
  simp
theorem segT_pre {s : T} {segs : List (Nat × Nat)} (j : Nat) : (segT s (segs.take j)).length ≤ (segT s segs).length := by
  have : segT s segs = segT s (segs.take j) ++ segT s (segs.drop j) := by unfold segT; rw [← List.flatMap_append, List.take_append_drop]
  rw [this, List.length_append]
  omega
theorem segC_at : ∀ {segs : List (Nat × Nat)} {j : Nat} {p : Nat × Nat}, segs[j]? = some p → (segC segs)[2 * j]? = some (.int .i64 p.1) ∧ (segC segs)[2 * j + 1]? = some (.int .i64 p.2)
  | [], j, p, h => by simp at h
  | q :: r, 0, p, h => by
    obtain rfl : q = p := by simpa using h
    exact ⟨rfl, rfl⟩
  | q :: r, j + 1, p, h => by
    have := segC_at (segs := r) (j := j) (p := p) (by simpa using h)
    rw [show 2 * (j + 1) = (2 * j) + 1 + 1 from by omega, show 2 * j + 1 + 1 + 1 = (2 * j + 1) + 1 + 1 from rfl]
    exact ⟨this.1, this.2⟩
theorem ze148 : (Tryz.prog.info? 125).bind (·.zero) = some (.agg #[.slice none 0 0, .int .i64 0, .int .i8 0]) := by kernel_rfl
theorem ze126' : (Tryz.prog.info? 104).bind (·.zero) = some (.agg #[.int .i64 0, .int .i64 0]) := by kernel_rfl
theorem ag126' : aggB Tryz.prog 104 2 = true := by kernel_rfl
theorem sl_some {b o c lo : Nat} : ∃ a : Addr, a.block = b ∧ (if c = lo then some (⟨b, o, none⟩ : Addr) else (some (⟨b, o, none⟩ : Addr)).map (·.add (lo * 1))) = some a := by
  split
  · exact ⟨_, rfl, rfl⟩
  · exact ⟨_, add_block _ _, rfl⟩
theorem byt_cells {w : World} {a : Addr} {k c : Nat} {l : T} (h : Byt w (.slice (some a) k c) l) : k = l.length ∧ ∀ (j : Nat) v, (bytesL l)[j]? = some v → w.cell? (a.add j) = some v := by
  obtain ⟨b, o, c', e, hc, hcell⟩ := h
  injection e with e1 e2 e3
  injection e1 with e1
  subst e1
  refine ⟨e2, fun j v hv => ?_⟩
  unfold bytesL at hv
  rw [List.getElem?_map] at hv
  cases hx : l[j]? with
  | none => rw [hx] at hv; cases hv
  | some x =>
    rw [hx] at hv
    obtain rfl := Option.some.inj hv
    rw [add_at]
    exact hcell j x hx
theorem si126' : (Tryz.prog.info? 104).map (·.size) = some 2 := by kernel_rfl
theorem row_slb {w : World} {r : Row} {l : T} {B : Nat} (hw : Has (r.mem (bytesL l) 5) w) (hr : r.ok B 1 (bytesL l).length (bytesL l)) : SlB w (r.val (bytesL l).length) l := by
  cases r with
  | nil =>
    obtain ⟨_, h⟩ := hr
    have : l = [] := by
      have h1 := congrArg List.length h
      rw [bytesL_len] at h1
      exact List.length_eq_zero_iff.1 h1
    subst this
    exact .inr ⟨rfl, rfl⟩
  | «at» g cap rr =>
    obtain ⟨_, h1, h2, _, _⟩ := hr
    have h2' : l.length ≤ cap := by rw [← bytesL_len l]; exact h2
    refine .inl (Byt.cells hw (List.mem_singleton.2 rfl) (.inr rfl) h2' (fun j x hx => ?_) (by rw [bytesL_len]; rfl))
    rw [Nat.zero_add, List.getElem?_append_left (by rw [bytesL_len]; exact (List.getElem?_eq_some_iff.1 hx).1)]
    exact bytesL_get hx
set_option maxHeartbeats 1000000 in
theorem val2_calls {w : World} {s : T} {b o c ty l0 h0 fb cap : Nat} {A : Addr} {er st : Value} {segs : List (Nat × Nat)} (h1 : er.oneCell' = true) (h2 : st.oneCell' = true) (hB : Byt w (.slice (some ⟨b, o, none⟩) s.length c) s) (hbw : b < w.heap.size) (hch : SegCh s.length 0 segs) (hbig : s.length ≤ 4294967296) (hn2 : 2 ≤ segs.length) (hn3 : segs.length ≤ 4294967296)
    (hA : ∀ (j : Nat) u, (segC segs)[j]? = some u → w.cell? (A.add j) = some u) :
    Calls Tryz.prog 87 #[.agg #[.int .i64 (ty : Nat), er, .int .i64 (l0 : Nat), .int .i64 (h0 : Nat), .slice (some A) segs.length cap, .int .u8 (fb : Nat), st], .slice (some ⟨b, o, none⟩) s.length c] w fun e w' => ∃ v', e = .returned v' ∧ SlB w' v' (segT s segs) ∧ Below w.heap.size w w' := by
  have hcap : s.length ≤ c := by obtain ⟨b', o', c', he, hc, _⟩ := hB; cases he; exact hc
  refine enter (fun _ => False) 50 [] Tryz.func87 rfl rfl rfl (vs := [.agg #[.int .i64 (ty : Nat), er, .int .i64 (l0 : Nat), .int .i64 (h0 : Nat), .slice (some A) segs.length cap, .int .u8 (fb : Nat), st], .slice (some ⟨b, o, none⟩) s.length c]) (Has.nil _) ?_
  conv => arg 2; arg 2; whnf
  repeat' (first | refine cseq ?_ | refine rtext ?_ | refine cfalse rfl ?_ | refine cskip ?_ | refine cblk ?_ | refine jnil ?_ | (first | refine jmv rfl rfl rfl ?_ | (show Jo _ (.fieldAddr _ _ _); refine jy (yfield rfl fb88_4' rfl) rfl rfl ?_) | (show Jo _ (.load _ _); first | refine jy (yload (i := 0) rfl rfl rfl one3) rfl rfl ?_ | refine jy (yload (i := 1) rfl rfl rfl one3) rfl rfl ?_) | refine jas_ rfl rfl rfl ?_ | (show Jo _ (.binOp _ _ _ _ _); refine jy (yeql rfl rfl (by (exact decide_eq_false (by omega)))) rfl rfl ?_) | (show Jo _ (.call _); ((show Jo _ (.call ⟨.builtin .len, _, _⟩); refine jy (ylenl rfl und86') rfl rfl ?_))) | (show Jo _ (.box _ _); refine jbox rfl rfl rfl (fun gb hT => ?_)) | (show Jo (some 5) (.alloc _); refine jalloc ze148 rfl (fun gB hgB => ?_))))
  obtain ⟨it, hit⟩ : ∃ it : Nat × List Value × Bk, it = (gb, [.int .i64 (ty : Nat), er, .int .i64 (l0 : Nat), .int .i64 (h0 : Nat), .slice (some A) segs.length cap, .int .u8 (fb : Nat), st], Bk.c 78) := ⟨_, rfl⟩
  have hNB : NoB [it] := fun x hx => by
    rw [List.mem_singleton.1 hx, hit]
    exact ⟨78, rfl, by decide⟩
  have hTl : (segT s segs).length ≤ s.length := by have := segT_len hch; omega
  rw [← hit]
  refine fin (f' := [(1, .slice (some ⟨b, o, none⟩) s.length c), (5, .pointer (some ⟨gB, 0, none⟩)), (35, .slice (some A) segs.length cap), (36, .int .i64 segs.length), (37, .int .i64 (0 : Nat))]) (m' := bufM gB .nil (bytesL (segT s (segs.take 0))) 0 [it])
    (cloop (ι := Nat × Row × Int) (fun i => [(1, .slice (some ⟨b, o, none⟩) s.length c), (5, .pointer (some ⟨gB, 0, none⟩)), (35, .slice (some A) segs.length cap), (36, .int .i64 segs.length), (37, .int .i64 (i.1 : Nat))]) (fun i => bufM gB i.2.1 (bytesL (segT s (segs.take i.1))) i.2.2 [it])
      (fun n i => n = segs.length - i.1 ∧ i.1 ≤ segs.length ∧ i.2.1.ok w.heap.size 1 (bytesL (segT s (segs.take i.1))).length (bytesL (segT s (segs.take i.1)))) segs.length (0, .nil, 0) ⟨rfl, Nat.zero_le _, rfl, rfl⟩ ?_) ⟨rfl, rfl, rfl, rfl, rfl, trivial⟩ rfl
  rintro n ⟨j, r, lr⟩ ⟨rfl, hj, hrok⟩ K hK
  dsimp only at hj hrok ⊢
  have hpre := segT_pre (s := s) (segs := segs) j
  by_cases hlt : j < segs.length
  · obtain ⟨p, hp⟩ : ∃ p, segs[j]? = some p := ⟨_, List.getElem?_eq_getElem hlt⟩
    obtain ⟨hp1, hp2⟩ := hch.mem p (List.mem_of_getElem? hp)
    obtain ⟨hc1, hc2⟩ := segC_at hp
    have hA2 : ∀ (i : Nat) v, ([.int .i64 p.1, .int .i64 p.2] : List Value)[i]? = some v → w.cell? ((A.add (2 * j)).add i) = some v := by
      intro i v hv
      rw [add_add]
      match i, hv with
      | 0, hv => cases hv; exact hA _ _ hc1
      | 1, hv => cases hv; exact hA _ _ hc2
      | i + 2, hv => cases hv
    obtain ⟨a, hab, ha⟩ := sl_some (b := b) (o := o) (c := c) (lo := p.1)
    have hsub := hB.sub p.1 (p.2 - p.1) (by omega)
    rw [ha] at hsub
    obtain ⟨hk1, hk2⟩ := byt_cells hsub
    have hcl : (bytesL (cut s p.1 p.2)).length = p.2 - p.1 := by rw [bytesL_len, cut_len hp2]
    have hwr := write_calls (X := ⟨50, [], fun _ => False, w⟩) (r := r) (lr := lr) (c := c - p.1) hNB hgB hrok (bytesL_one _) hcl (by rw [hab]; exact hbw) (fun h => h) (fun i v hv => hk2 i v hv) (bytesL_one _) (by rw [bytesL_len]; omega)
    have hk := hK (segs.length - (j + 1))
    rw [← bytesL_app, ← segT_take hp] at hwr
    repeat' (first | refine cseq ?_ | refine rtext ?_ | refine ctrue rfl ?_ | refine cskip ?_ | refine cblk ?_ | refine tnorm ?_ | refine jnil ?_ | (first | refine jmv rfl rfl rfl ?_ | (show Jo _ (.fieldAddr _ _ _); refine jy (yfield rfl (by first | exact fb88_0' | exact fb126_1') rfl) rfl rfl ?_) | (show Jo _ (.load _ _); first | refine jy (yload (i := 0) rfl rfl rfl one3) rfl rfl ?_ | refine jy (yloadsw (c := [.int .i64 p.1, .int .i64 p.2]) rfl hA2 (fun h => h) ag126') rfl rfl ?_) | (show Jo _ (.binOp _ _ _ _ _); first | (show Jo _ (.binOp .add _ _ _ _); refine jy (yadd (c := ((j + 1 : Nat) : Int)) rfl rfl (by rw [i64_in (by omega) (by omega)]; omega)) rfl rfl ?_) | refine jy (ylss rfl rfl (by (exact decide_eq_true (by omega)))) rfl rfl ?_) | (show Jo _ (.store _ _ _); refine jstores (i := 0) rfl rfl rfl rfl rfl si126' (.inr hT7) ?_) | (show Jo _ (.call _); ((show Jo (some 47) (.call _); refine jless (List.sublist_cons_self _ _) ?_; refine jcall (ι := Row × Int) (vs := [.pointer (some ⟨gB, 0, none⟩), .slice (some a) (p.2 - p.1) (c - p.1)]) _ bo124 rfl rfl rfl hwr (fun i1 hi1 => ?_)))) | (show Jo (some 7) (.alloc _); refine jalloc ze126' rfl (fun g7 hT7 => ?_)) | (show Jo _ (.slice 62 _ (some _) (some _) none); refine jy (yslLH (n := p.1) (n' := p.2) (kk := p.2 - p.1) rfl rfl rfl und59 sz5 rfl rfl hp1 (by omega) ha rfl rfl) rfl rfl ?_) | (show Jo _ (.indexAddr 76 _ _); refine jy (yat (p' := A.add (2 * j)) rfl rfl und86' sz126' (by omega) (by omega) (by congr 1; omega)) rfl rfl ?_)))
    exact fin (hk (j + 1, i1.1, i1.2) (by omega) ⟨rfl, hlt, hi1⟩) ⟨rfl, rfl, rfl, rfl, rfl, trivial⟩ rfl
  · obtain rfl : j = segs.length := by omega
    have hby := bufBytes_calls (X := ⟨50, [], fun _ => False, w⟩) (r := r) (lr := lr) hNB hgB hrok
    rw [List.take_length] at *
    repeat' (first | refine cseq ?_ | refine rtext ?_ | refine cfalse rfl ?_ | refine cret ?_ | refine cexit ?_ | refine jnil ?_ | (first | refine jas_ rfl rfl rfl ?_ | (show Jo _ (.binOp _ _ _ _ _); refine jy (ylss rfl rfl (by (exact decide_eq_false (by omega)))) rfl rfl ?_) | (show Jo _ (.call _); ((show Jo (some 49) (.call _); refine jcall (ι := Row) (vs := [.pointer (some ⟨gB, 0, none⟩)]) _ bo125 rfl rfl rfl hby (fun i1 hi1 => ?_))))))
    exact ret1 rfl rfl rfl (fun w' hw' => ⟨_, rfl, row_slb hw'.1 hi1, hw'.2.below (fun k _ h => h) (Nat.le_refl _)⟩)
def ItW (w : World) (s : T) (it : Itm) (cs : List Value) : Prop := ∃ er sg, cs = itC it.ty er it.low it.high sg (fbN s (ipos it)) it.str ∧ ((it.err = false ∧ er = .nilIface) ∨ (it.err = true ∧ ∃ v, er = .iface 149 v)) ∧ SegW w sg it.segs
structure InI (s : T) (it : Itm) : Prop where
  lo : it.segs = [] → it.low ≤ it.high ∧ it.high ≤ s.length
  ch : SegCh s.length 0 it.segs
  n : it.segs.length ≤ s.length
theorem SegW.below {w w' : World} {sg : Value} {segs : List (Nat × Nat)} (h : SegW w sg segs) (hb : Below w.heap.size w w') : SegW w' sg segs := by
  rcases h with h | ⟨A, cap, h1, h2, h3⟩
  · exact .inl h
  · exact .inr ⟨A, cap, h1, h2, fun j u hj => Go.Rx.cell_evo (S := fun _ => False) (Evo.of_below hb) (fun h => h) (h3 j u hj)⟩
theorem ItW.below {w w' : World} {s : T} {it : Itm} {cs : List Value} (h : ItW w s it cs) (hb : Below w.heap.size w w') : ItW w' s it cs := by
  obtain ⟨er, sg, h1, h2, h3⟩ := h
  exact ⟨er, sg, h1, h2, h3.below hb⟩
theorem SegW.one {w : World} {sg : Value} {segs : List (Nat × Nat)} (h : SegW w sg segs) : sg.oneCell' = true := by
  rcases h with ⟨_, rfl⟩ | ⟨A, cap, _, rfl, _⟩ <;> rfl
theorem ItW.ic {w : World} {s : T} {it : Itm} {cs : List Value} (h : ItW w s it cs) : IC it.ty cs := by
  obtain ⟨er, sg, rfl, h2, h3⟩ := h
  have he : er.oneCell' = true := by
    rcases h2 with ⟨_, rfl⟩ | ⟨_, v, rfl⟩ <;> rfl
  refine ⟨er, _, _, sg, _, _, rfl, fun v hv => ?_⟩
  simp only [List.mem_cons, List.not_mem_nil, or_false] at hv
  rcases hv with rfl | rfl | rfl | rfl | rfl | rfl
  · exact he
  · rfl
  · rfl
  · exact h3.one
  · rfl
  · rfl
theorem val_calls {w : World} {s : T} {b o c : Nat} {it : Itm} {cs : List Value} (hB : Byt w (.slice (some ⟨b, o, none⟩) s.length c) s) (hbw : b < w.heap.size) (hbig : s.length ≤ 4294967296) (hi : ItW w s it cs) (hin : InI s it) :
    Calls Tryz.prog 87 #[.agg cs.toArray, .slice (some ⟨b, o, none⟩) s.length c] w fun e w' => ∃ v', e = .returned v' ∧ SlB w' v' (valI s it) ∧ Below w.heap.size w w' := by
  obtain ⟨er, sg, rfl, h2, h3⟩ := hi
  have he : er.oneCell' = true := by
    rcases h2 with ⟨_, rfl⟩ | ⟨_, v, rfl⟩ <;> rfl
  have hst : (Value.bool it.str).oneCell' = true := rfl
  have hn := hin.n
  rcases h3 with ⟨hs, rfl⟩ | ⟨A, cap, hs, rfl, hA⟩
  · obtain ⟨hl1, hl2⟩ := hin.lo hs
    refine (val0_calls (lo := it.low) (hi := it.high) he hst hB hl1 hl2).mono fun e w' ⟨v', h4, h5, h6⟩ => ⟨v', h4, ?_, h6⟩
    unfold valI
    rw [if_pos hs]
    exact .inl h5
  · have hv : valI s it = segT s it.segs := by unfold valI; rw [if_neg hs]; rfl
    rw [hv]
    match hsg : it.segs, hs with
    | [p], _ =>
      have hch := hin.ch
      rw [hsg] at hch hA
      refine (val1_calls (lo := p.1) (hi := p.2) he hst hB hch.2.1 (SegCh.le hch.2.2) (hA 0 _ rfl) (hA 1 _ rfl)).mono fun e w' ⟨v', h4, h5, h6⟩ => ⟨v', h4, ?_, h6⟩
      unfold segT
      rw [List.flatMap_cons, List.flatMap_nil, List.append_nil]
      exact .inl h5
    | p :: q :: r, _ =>
      rw [← hsg]
      exact val2_calls he hst hB hbw hin.ch hbig (by rw [hsg]; simp) (by omega) hA
theorem bo71 : bodyB Tryz.prog 57 = true := by kernel_rfl
theorem bo74 : bodyB Tryz.prog 60 = true := by kernel_rfl
theorem bo108' : bodyB Tryz.prog 88 = true := by kernel_rfl
theorem und9' : Tryz.prog.underlying 9 = some .string := by kernel_rfl
theorem und5' : Tryz.prog.underlying 5 = some (.int .u8) := by kernel_rfl
theorem ystrS {X : Cx} {P : Program} {f : Fr} {m : Mem} {d : Option Tmp} {ty : TypeId} {pos : String} {af : Array Edge} {gd : Option (Nat × Bool)} {x : Operand} {t t' e : Nat} {l : T} {v : Value} {r : ByteArray} (hx : evF f x = some v) (hv : ∀ w, Cl X m w → SlB w v l) (hs : P.underlying t = some (.slice e)) (he : P.underlying e = some (.int .u8)) (ht : P.underlying t' = some .string) (hr : ba l = r) :
    Yl X P f m ⟨d, .convert t t' x, ty, pos, af, gd⟩ (.string r) := .of fun a w st => by
  rcases hv w ⟨st.has, st.evo⟩ with h | ⟨hl, h⟩
  · subst hr
    obtain ⟨b, o, c, rfl, _, hc⟩ := h
    have := run_convert_bytes_back (P := P) w t t' e ⟨b, o, none⟩ c l hs he ht (fun j hj => by
      have h1 := hc j l[j] (List.getElem?_eq_getElem hj)
      have h2 : (⟨b, o, none⟩ : Addr).add j = ⟨b, o + j, none⟩ := by unfold Addr.add; split <;> simp_all
      rw [h2]
      exact h1)
    simp [execOp, st.agr.eval hx, this]
    rfl
  · subst hr
    subst hl
    subst h
    have := run_convert_bytes_nil (P := P) (w := w) t e hs he 0 0 t' ht
    simp [execOp, st.agr.eval hx, this]
    rfl
theorem SlB.slice {w : World} {v : Value} {l : T} (h : SlB w v l) : ∃ A c, v = .slice A l.length c := by
  rcases h with ⟨b, o, c, rfl, _⟩ | ⟨rfl, rfl⟩
  · exact ⟨_, _, rfl⟩
  · exact ⟨_, _, rfl⟩
theorem valStr_calls {w : World} {s : T} {b o c : Nat} {it : Itm} {cs : List Value} (hB : Byt w (.slice (some ⟨b, o, none⟩) s.length c) s) (hbw : b < w.heap.size) (hbig : s.length ≤ 4294967296) (hi : ItW w s it cs) (hin : InI s it) :
    Calls Tryz.prog 57 #[.agg cs.toArray, .slice (some ⟨b, o, none⟩) s.length c] w fun e w' => e = .returned (.string (ba (valI s it))) ∧ Below w.heap.size w w' := by
  have hi0 := hi
  obtain ⟨er, sg, hcs, h2, h3⟩ := hi0
  subst hcs
  have he : er.oneCell' = true := by
    rcases h2 with ⟨_, rfl⟩ | ⟨_, v, rfl⟩ <;> rfl
  have hsg := h3.one
  refine enter (fun _ => False) 9 [] Tryz.func57 rfl rfl rfl (vs := [.agg #[.int .i64 it.ty, er, .int .i64 it.low, .int .i64 it.high, sg, .int .u8 (fbN s (ipos it)), .bool it.str], .slice (some ⟨b, o, none⟩) s.length c]) (Has.nil _) ?_
  conv => arg 2; arg 2; whnf
  repeat' (first | refine cseq ?_ | refine rtext ?_ | refine cret ?_ | refine jnil ?_ | (first | refine jmv rfl rfl rfl ?_ | (show Jo _ (.load _ _); refine jy (yloads (i := 0) rfl rfl ag88) rfl rfl ?_) | refine jas_ rfl rfl rfl ?_ | (show Jo _ (.call _); ((show Jo _ (.call ⟨.value (.func 87), _, _⟩); refine jcallR (vs := [.agg #[.int .i64 it.ty, er, .int .i64 it.low, .int .i64 it.high, sg, .int .u8 (fbN s (ipos it)), .bool it.str], .slice (some ⟨b, o, none⟩) s.length c]) (m' := []) (fun _ => False) (fun v w' => SlB w' v (valI s it)) bo107 rfl rfl rfl (fun w' hw' => (val_calls (hB.below (hw'.2.below (fun k _ h => h) (Nat.le_refl _)) (Nat.le_refl _)) (Nat.lt_of_lt_of_le hbw hw'.2.size) hbig (hi.below (hw'.2.below (fun k _ h => h) (Nat.le_refl _))) hin).mono fun e w'' ⟨v', h1, h2, h3⟩ => ⟨v', h1, (hw'.below h3).less (List.nil_sublist _), h2⟩) (fun v1 w1 hv1 _ he1 => ?_)))) | (show Jo _ (.box _ _); refine jbox rfl rfl rfl (fun gb hT => ?_)) | (show Jo _ (.convert _ _ _); refine jy (ystrS rfl (fun w' hw' => hv1.below (hw'.2.below (fun k _ h => h) (Nat.le_refl _))) und59 und5' und9' rfl) rfl rfl ?_)))
  exact ret1 rfl rfl rfl (fun w' hw' => ⟨rfl, (he1.below (fun k _ h => h) (Nat.le_refl _)).trans (hw'.2.below (fun k _ h => h) he1.size)⟩)
theorem trimN_calls {w : World} : Calls Tryz.prog 88 #[.slice none 0 0] w fun e w' => e = .returned (.slice none 0 0) ∧ Below w.heap.size w w' := by
  refine enter (fun _ => False) 54 [] Tryz.func88 rfl rfl rfl (vs := [.slice none 0 0]) (Has.nil _) ?_
  conv => arg 2; arg 2; whnf
  repeat' (first | refine cseq ?_ | refine rtext ?_ | refine cblk ?_ | refine jnil ?_ | (first | refine jmv rfl rfl rfl ?_ | refine jas_ rfl rfl rfl ?_ | (show Jo _ (.call _); ((show Jo _ (.call ⟨.builtin .len, _, _⟩); refine jy (ylenl rfl und59) rfl rfl ?_)))))
  refine fin (f' := [(7, .slice none 0 0), (8, .int .i64 (0 : Nat)), (9, .int .i64 (0 : Nat))]) (m' := []) (cloop (ι := Unit) (fun _ => [(7, .slice none 0 0), (8, .int .i64 (0 : Nat)), (9, .int .i64 (0 : Nat))]) (fun _ => []) (fun n _ => n = 0) 0 () rfl ?_) ⟨rfl, rfl, rfl, trivial⟩ rfl
  rintro n _ rfl K hK
  repeat' (first | refine cseq ?_ | refine rtext ?_ | refine cfalse rfl ?_ | refine cret ?_ | refine cexit ?_ | refine jnil ?_ | (first | refine jas_ rfl rfl rfl ?_ | (show Jo _ (.binOp _ _ _ _ _); refine jy (ylss rfl rfl (by (exact decide_eq_false (by omega)))) rfl rfl ?_)))
  exact ret1 rfl rfl rfl (fun w' hw' => ⟨rfl, hw'.2.below (fun k _ h => h) (Nat.le_refl _)⟩)
theorem trimS_calls {w : World} {v : Value} {l : T} (hT : Tab w) (hv : SlB w v l) (hl : l.length ≤ 4611686018427387904) : Calls Tryz.prog 88 #[v] w fun e w' => ∃ v', e = .returned v' ∧ SlB w' v' (trS l) ∧ Below w.heap.size w w' := by
  rcases hv with hB | ⟨rfl, rfl⟩
  · have hB0 := hB
    obtain ⟨b, o, c, rfl, _, _⟩ := hB0
    exact (trimSpace_calls hT hB hl).mono fun e w' ⟨v', h1, h2, h3⟩ => ⟨v', h1, h2 w' (hB.below h3 (Nat.le_refl _)), h3⟩
  · exact trimN_calls.mono fun e w' ⟨h1, h2⟩ => ⟨_, h1, .inr ⟨rfl, rfl⟩, h2⟩
theorem valI_len {s : T} {it : Itm} (hin : InI s it) : (valI s it).length ≤ s.length := by
  unfold valI
  split
  · rename_i h
    have := hin.lo h
    rw [cut_len this.2]
    omega
  · have := segT_len hin.ch
    unfold segT at this
    omega
theorem nonws_calls {w : World} {s : T} {b o c : Nat} {it : Itm} {cs : List Value} (hT0 : Tab w) (hB : Byt w (.slice (some ⟨b, o, none⟩) s.length c) s) (hbw : b < w.heap.size) (hbig : s.length ≤ 4294967296) (hi : ItW w s it cs) (hin : InI s it) :
    Calls Tryz.prog 60 #[.agg cs.toArray, .slice (some ⟨b, o, none⟩) s.length c] w fun e w' => e = .returned (.bool (!(trS (valI s it)).isEmpty)) ∧ Below w.heap.size w w' := by
  have hi0 := hi
  obtain ⟨er, sg, hcs, h2, h3⟩ := hi0
  subst hcs
  have he : er.oneCell' = true := by
    rcases h2 with ⟨_, rfl⟩ | ⟨_, v, rfl⟩ <;> rfl
  have hsg := h3.one
  have hvl : (valI s it).length ≤ 4611686018427387904 := Nat.le_trans (valI_len hin) (by omega)
  refine enter (fun _ => False) 11 [] Tryz.func60 rfl rfl rfl (vs := [.agg #[.int .i64 it.ty, er, .int .i64 it.low, .int .i64 it.high, sg, .int .u8 (fbN s (ipos it)), .bool it.str], .slice (some ⟨b, o, none⟩) s.length c]) (Has.nil _) ?_
  conv => arg 2; arg 2; whnf
  rcases Nat.eq_zero_or_pos (trS (valI s it)).length with h0 | h0
  · have he : (trS (valI s it)).isEmpty = true := by rw [List.length_eq_zero_iff.1 h0]; rfl
    rw [he]
    repeat' (first | refine cseq ?_ | refine rtext ?_ | refine cret ?_ | refine jnil ?_ | (first | refine jmv rfl rfl rfl ?_ | (show Jo _ (.load _ _); refine jy (yloads (i := 0) rfl rfl ag88) rfl rfl ?_) | refine jas_ rfl rfl rfl ?_ | (show Jo _ (.binOp _ _ _ _ _); ((show Jo _ (.binOp .gtr _ _ _ _); refine jy (ygtr rfl rfl (by (exact decide_eq_false (by omega)))) rfl rfl ?_))) | (show Jo _ (.call _); first | (show Jo _ (.call ⟨.value (.func 88), _, _⟩); refine jcallR (vs := [v1]) (m' := []) (fun _ => False) (fun v w' => SlB w' v (trS (valI s it))) bo108' rfl rfl rfl (fun w' hw' => (trimS_calls ((hT0.below (he1.below (fun k _ h => h) (Nat.le_refl _))).below (hw'.2.below (fun k _ h => h) (Nat.le_refl _))) (hv1.below (hw'.2.below (fun k _ h => h) (Nat.le_refl _))) hvl).mono fun e w'' ⟨v', h1, h2, h3⟩ => ⟨v', h1, (hw'.below h3).less (List.nil_sublist _), h2⟩) (fun v2 w2 hv2 _ he2 => ?_); obtain ⟨A2, c2, rfl⟩ := hv2.slice) | (show Jo _ (.call ⟨.value (.func 87), _, _⟩); refine jcallR (vs := [.agg #[.int .i64 it.ty, er, .int .i64 it.low, .int .i64 it.high, sg, .int .u8 (fbN s (ipos it)), .bool it.str], .slice (some ⟨b, o, none⟩) s.length c]) (m' := []) (fun _ => False) (fun v w' => SlB w' v (valI s it)) bo107 rfl rfl rfl (fun w' hw' => (val_calls (hB.below (hw'.2.below (fun k _ h => h) (Nat.le_refl _)) (Nat.le_refl _)) (Nat.lt_of_lt_of_le hbw hw'.2.size) hbig (hi.below (hw'.2.below (fun k _ h => h) (Nat.le_refl _))) hin).mono fun e w'' ⟨v', h1, h2, h3⟩ => ⟨v', h1, (hw'.below h3).less (List.nil_sublist _), h2⟩) (fun v1 w1 hv1 _ he1 => ?_)) | (show Jo _ (.call ⟨.builtin .len, _, _⟩); refine jy (ylenl rfl und59) rfl rfl ?_)) | (show Jo _ (.box _ _); refine jbox rfl rfl rfl (fun gb hT => ?_))))
    exact ret1 rfl rfl rfl (fun w' hw' => ⟨rfl, ((he1.below (fun k _ h => h) (Nat.le_refl _)).trans (he2.below (fun k _ h => h) he1.size)).trans (hw'.2.below (fun k _ h => h) (Nat.le_trans he1.size he2.size))⟩)
  · have he : (trS (valI s it)).isEmpty = false := by
      cases hr : trS (valI s it) with
      | nil => rw [hr] at h0; cases h0
      | cons c r => rfl
    rw [he]
    repeat' (first | refine cseq ?_ | refine rtext ?_ | refine cret ?_ | refine jnil ?_ | (first | refine jmv rfl rfl rfl ?_ | (show Jo _ (.load _ _); refine jy (yloads (i := 0) rfl rfl ag88) rfl rfl ?_) | refine jas_ rfl rfl rfl ?_ | (show Jo _ (.binOp _ _ _ _ _); ((show Jo _ (.binOp .gtr _ _ _ _); refine jy (ygtr rfl rfl (by (exact decide_eq_true (by omega)))) rfl rfl ?_))) | (show Jo _ (.call _); first | (show Jo _ (.call ⟨.value (.func 88), _, _⟩); refine jcallR (vs := [v1]) (m' := []) (fun _ => False) (fun v w' => SlB w' v (trS (valI s it))) bo108' rfl rfl rfl (fun w' hw' => (trimS_calls ((hT0.below (he1.below (fun k _ h => h) (Nat.le_refl _))).below (hw'.2.below (fun k _ h => h) (Nat.le_refl _))) (hv1.below (hw'.2.below (fun k _ h => h) (Nat.le_refl _))) hvl).mono fun e w'' ⟨v', h1, h2, h3⟩ => ⟨v', h1, (hw'.below h3).less (List.nil_sublist _), h2⟩) (fun v2 w2 hv2 _ he2 => ?_); obtain ⟨A2, c2, rfl⟩ := hv2.slice) | (show Jo _ (.call ⟨.value (.func 87), _, _⟩); refine jcallR (vs := [.agg #[.int .i64 it.ty, er, .int .i64 it.low, .int .i64 it.high, sg, .int .u8 (fbN s (ipos it)), .bool it.str], .slice (some ⟨b, o, none⟩) s.length c]) (m' := []) (fun _ => False) (fun v w' => SlB w' v (valI s it)) bo107 rfl rfl rfl (fun w' hw' => (val_calls (hB.below (hw'.2.below (fun k _ h => h) (Nat.le_refl _)) (Nat.le_refl _)) (Nat.lt_of_lt_of_le hbw hw'.2.size) hbig (hi.below (hw'.2.below (fun k _ h => h) (Nat.le_refl _))) hin).mono fun e w'' ⟨v', h1, h2, h3⟩ => ⟨v', h1, (hw'.below h3).less (List.nil_sublist _), h2⟩) (fun v1 w1 hv1 _ he1 => ?_)) | (show Jo _ (.call ⟨.builtin .len, _, _⟩); refine jy (ylenl rfl und59) rfl rfl ?_)) | (show Jo _ (.box _ _); refine jbox rfl rfl rfl (fun gb hT => ?_))))
    exact ret1 rfl rfl rfl (fun w' hw' => ⟨rfl, ((he1.below (fun k _ h => h) (Nat.le_refl _)).trans (he2.below (fun k _ h => h) he1.size)).trans (hw'.2.below (fun k _ h => h) (Nat.le_trans he1.size he2.size))⟩)
end Go.Proofs.YtkehggbmpdacpabGreatDoor.Pg
