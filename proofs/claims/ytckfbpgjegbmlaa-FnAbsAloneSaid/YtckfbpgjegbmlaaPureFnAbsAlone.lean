/- FnAbsAlone, the plain law: an absolute path does not go by the folder, and a relative one in it is the one of both together; for all texts. -/
import Derived.Test.YtckfbpgjegbmlaaPFnAbsAlonex1
import Derived.Test.YtckfbpgjegbmlaaAbsI0FnAbsAlone
set_option linter.unusedVariables false
namespace Go.Proofs.Ytckfbpgjegbmlaa.Pure
open Go.RowKit Go.Proofs.Ytckfbpgjegbmlaa.PFnAbsAlone Go.Proofs.YtckfbpgjegbmlaaW.PrintWords Go.Proofs.YtckfbpgjegbmlaaW.PrintLast Go.Proofs.Ytckfbpgjegbmlaa.Lib0 Go.Proofs.Ytckfbpgjegbmlaa Go.Proofs.Ytckfbpgjegbmlaa.Trim0 Go.Proofs.Ytckfbpgjegbmlaa.AbsI0FnAbsAlone Go.Lib.Pa

theorem aa_ahead (s : ByteArray) : Trim0.Ahead (stSl ++ s) := by
  refine ⟨by rw [app_size, stSl_size]; omega, ?_⟩
  rw [bt_app_left _ _ _ (by omega) (by rw [stSl_size]; omega)]; exact stSl_bt
theorem aa_x (s : ByteArray) : ¬ Trim0.Ahead ((⟨#[120]⟩ : ByteArray) ++ s) := by
  intro h
  have := h.2
  rw [bt_app_left _ _ _ (by omega) (by show (0 : Int) < ((1 : Nat) : Int); omega)] at this
  have e : bt (⟨#[120]⟩ : ByteArray) 0 = 120 := by rw [bt_list]; rfl
  rw [e] at this
  omega

theorem FnAbsAlone : laws_FnAbsAlone.Pure := by
  intro a b s ha hb hs
  refine Ev.rounds ?_
  have j0t : Ev (fun k => laws_FnAbsAlone.j0 k a b s true) true := Ev.step (f := fun _ => some true) (fun k => by simp only [laws_FnAbsAlone.j0, if_true]) (Ev.now _)
  by_cases h1 : (a.size : Int) > 2147483647
  · exact Ev.congr (fun k => by unfold laws_FnAbsAlone.f; rw [if_pos h1]) j0t
  by_cases h2 : (b.size : Int) > 2147483647
  · exact Ev.congr (fun k => by unfold laws_FnAbsAlone.f; rw [if_neg h1, if_pos h2]) j0t
  by_cases h3 : (s.size : Int) > 2147483647
  · have d3 : decide ((s.size : Int) > 2147483647) = true := decide_eq_true h3
    exact Ev.congr (fun k => by unfold laws_FnAbsAlone.f; rw [if_neg h1, if_neg h2, d3]) j0t
  refine Ev.congr (f := fun k => laws_FnAbsAlone.j0 k a b s false) (fun k => by unfold laws_FnAbsAlone.f; rw [if_neg h1, if_neg h2, decide_eq_false h3]) ?_
  have w1 : wrap64 ((a.size : Int) + (b.size : Int)) = (a.size : Int) + (b.size : Int) := wrap_id _ (by omega)
  have w2 : wrap64 ((a.size : Int) + (b.size : Int) + (s.size : Int)) = (a.size : Int) + (b.size : Int) + (s.size : Int) := wrap_id _ (by omega)
  have zs : (stSl ++ s).size = 1 + s.size := by rw [app_size, stSl_size]
  have za : (stSl ++ a).size = 1 + a.size := by rw [app_size, stSl_size]
  have zx : ((⟨#[120]⟩ : ByteArray) ++ s).size = 1 + s.size := by rw [app_size]; rfl
  have z2 : (⟨#[47, 120]⟩ : ByteArray).size = 2 := rfl
  have zc : ((stSl ++ a) ++ (⟨#[47, 120]⟩ : ByteArray)).size = 1 + a.size + 2 := by rw [app_size, za, z2]
  have zd : (((stSl ++ a) ++ (⟨#[47, 120]⟩ : ByteArray)) ++ s).size = 1 + a.size + 2 + s.size := by rw [app_size, zc]
  have c0 : impl_AbsPathify.f (⟨#[47, 97]⟩ : ByteArray) (⟨#[98]⟩ : ByteArray) = some (ofL [47, 97, 47, 98]) := by
    rw [abs_f _ _ (by decide) (by decide)]
    have n : ¬ Trim0.Ahead (⟨#[98]⟩ : ByteArray) := by
      intro h
      have := h.2
      have e : bt (⟨#[98]⟩ : ByteArray) 0 = 98 := by rw [bt_list]; rfl
      rw [e] at this
      omega
    have e : decide (Trim0.Ahead (⟨#[98]⟩ : ByteArray)) = false := decide_eq_false n
    rw [e]
    congr 1
  have p0 : (ofL [47, 97, 47, 98]).toList = ([47, 97, 47, 98] : List UInt8) := by rw [list_eq, ofL_data]
  have ab : ∀ x : ByteArray, decide (Trim0.Ahead (stSl ++ x)) = true := fun x => decide_eq_true (aa_ahead x)
  have c1 := abs_f a (stSl ++ s) (by omega) (by omega)
  have c2 := abs_f b (stSl ++ s) (by omega) (by omega)
  have c3 := abs_f (stSl ++ a) ((⟨#[120]⟩ : ByteArray) ++ s) (by omega) (by omega)
  have assoc : (((stSl ++ a) ++ (⟨#[47, 120]⟩ : ByteArray)) ++ s) = stSl ++ ((a ++ (⟨#[47, 120]⟩ : ByteArray)) ++ s) := by
    apply bytes_ext; simp only [data_app, List.append_assoc]
  have c4 := abs_f (⟨#[]⟩ : ByteArray) (((stSl ++ a) ++ (⟨#[47, 120]⟩ : ByteArray)) ++ s) (by decide) (by omega)
  have d4 : decide (Trim0.Ahead (((stSl ++ a) ++ (⟨#[47, 120]⟩ : ByteArray)) ++ s)) = true := by rw [assoc]; exact ab _
  rw [ab] at c1 c2
  rw [d4] at c4
  rw [decide_eq_false (aa_x s)] at c3
  have e12 : absOf b.data.toList (stSl ++ s).data.toList true = absOf a.data.toList (stSl ++ s).data.toList true := rfl
  rw [e12] at c2
  have e34 : absOf (⟨#[]⟩ : ByteArray).data.toList (((stSl ++ a) ++ (⟨#[47, 120]⟩ : ByteArray)) ++ s).data.toList true = absOf (stSl ++ a).data.toList ((⟨#[120]⟩ : ByteArray) ++ s).data.toList false := by
    unfold absOf
    simp only [data_app, stSl_list]
    simp
  rw [e34] at c4
  by_cases h4 : (a.size : Int) + (b.size : Int) + (s.size : Int) > 65536
  · refine Ev.step (f := fun _ => some true) (fun k => ?_) (Ev.now _)
    simp only [laws_FnAbsAlone.j0, Bool.false_eq_true, if_false, c0, Option.bind_some, p0, if_true, w1, w2, if_pos h4]
  · refine Ev.step (f := fun _ => some true) (fun k => ?_) (Ev.now _)
    have b1 : 1 + s.size ≤ 9223372036854775807 := by omega
    have b2 : 1 + a.size ≤ 9223372036854775807 := by omega
    have b3 : (stSl ++ a).size + 2 ≤ 9223372036854775807 := by omega
    have b4 : ((stSl ++ a) ++ (⟨#[47, 120]⟩ : ByteArray)).size + s.size ≤ 9223372036854775807 := by omega
    simp only [laws_FnAbsAlone.j0, Bool.false_eq_true, if_false, c0, Option.bind_some, p0, if_true, w1, w2, if_neg h4, if_pos b1, sl_lit, c1, c2, if_pos b2, c3, if_pos b3, if_pos b4, c4, beq_self_eq_true]
end Go.Proofs.Ytckfbpgjegbmlaa.Pure
