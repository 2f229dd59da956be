/- Cleaned paths, on lists: the elements between slashes, and the documentation's rules over them. No program's run here. -/
import Derived.Test.YtckfbpgjegbmlaaFlds0
import Derived.Test.YtckfbpgjegbmlaaTrim0
import Derived.Lib.CleanFns
set_option linter.unusedVariables false
namespace Go.Proofs.Ytckfbpgjegbmlaa.Clean0
open Go.RowKit Go.Proofs.YtckfbpgjegbmlaaW.PrintWords Go.Proofs.Ytckfbpgjegbmlaa.Lib0 Go.Proofs.Ytckfbpgjegbmlaa.Flds0 Go.Lib.Pa

def NE (x : List UInt8) : Bool := !x.isEmpty
theorem els_ne (l : List UInt8) : els l ≠ [] := by
  cases l with
  | nil => unfold els; simp
  | cons c t =>
    unfold els
    split
    · simp
    · split <;> simp

theorem filter_fpart (cur : List UInt8) (r : List (List UInt8)) : (cur :: r).filter NE = fpart cur ++ r.filter NE := by
  unfold fpart NE
  cases cur <;> simp

theorem flds_els : ∀ (l cur : List UInt8), flds l cur = ((els l).modifyHead (cur ++ ·)).filter NE := by
  intro l
  induction l with
  | nil => intro cur; unfold els flds; rw [List.modifyHead_cons, filter_fpart]; simp
  | cons c l ih =>
    intro cur
    unfold flds els
    by_cases h : c = 47
    · rw [if_pos h, if_pos h, List.modifyHead_cons, List.append_nil, filter_fpart, ih []]
      congr 1
      cases e : els l with
      | nil => exact absurd e (els_ne l)
      | cons x r => simp
    · rw [if_neg h, if_neg h, ih (cur ++ [c])]
      cases e : els l with
      | nil => exact absurd e (els_ne l)
      | cons x r => simp

theorem step_nil (b : Bool) (st : List (List UInt8)) : cleanStep b st [] = st := by unfold cleanStep; simp
theorem fold_filter (b : Bool) : ∀ (xs st : List (List UInt8)), xs.foldl (cleanStep b) st = (xs.filter NE).foldl (cleanStep b) st := by
  intro xs
  induction xs with
  | nil => intro st; rfl
  | cons x xs ih =>
    intro st
    rw [List.foldl_cons, ih]
    cases x with
    | nil => rw [step_nil]; simp [NE]
    | cons c x => simp [NE]
theorem fold_flds (b : Bool) (l : List UInt8) (st : List (List UInt8)) : (els l).foldl (cleanStep b) st = (flds l []).foldl (cleanStep b) st := by
  rw [fold_filter, flds_els]
  cases e : els l with
  | nil => exact absurd e (els_ne l)
  | cons x r => simp

def join (ps : List (List UInt8)) : List UInt8 := [47].intercalate ps
def rooted (l : List UInt8) : Bool := l.head? == some 47
def kept (l : List UInt8) : List (List UInt8) := ((flds l []).foldl (cleanStep (rooted l)) []).reverse
def asPath (r : Bool) (body : List UInt8) : List UInt8 := if r then 47 :: body else if body = [] then [46] else body

theorem clean_is (l : List UInt8) : cleanEls l = asPath (rooted l) (join (kept l)) := by
  unfold cleanEls
  by_cases h : l = []
  · subst h
    rw [if_pos rfl]
    rfl
  · rw [if_neg h]
    unfold asPath kept join rooted
    rw [← fold_flds]

theorem join_nil : join [] = [] := rfl
theorem join_one (x : List UInt8) : join [x] = x := by unfold join; simp [List.intercalate]
theorem join_snoc (ps : List (List UInt8)) (x : List UInt8) (h : ps ≠ []) : join (ps ++ [x]) = join ps ++ 47 :: x := by
  induction ps with
  | nil => exact absurd rfl h
  | cons y ps ih =>
    cases ps with
    | nil => unfold join; simp [List.intercalate]
    | cons z ps =>
      have := ih (by simp)
      unfold join at this ⊢
      simp only [List.cons_append, List.intercalate, List.intersperse_cons_cons, List.flatten_cons] at this ⊢
      rw [this]; simp

end Go.Proofs.Ytckfbpgjegbmlaa.Clean0
