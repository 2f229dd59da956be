/- Printed by a program of this session (a printer turned to take contracts that were proved by hand): functions with the answers of the Go functions, and proofs that the code comes to these answers; no condition beyond what each theorem names. -/
import Derived.Test.YtckfbpgjegbmlaaPFnSlashesx0
import Derived.Test.YtckfbpgjegbmlaaPFnSlashesx1
import Derived.Test.YtckfbpgjegbmlaaPFnSlashesx2
namespace Go.Proofs.Ytckfbpgjegbmlaa.PFnSlashes
open Go.RowKit Go.Proofs.YtckfbpgjegbmlaaW.PrintWords Go.Proofs.YtckfbpgjegbmlaaW.PrintLast Go.Proofs.YtckfbpgjegbmlaaW.PrintMore
attribute [local go_sem] max2_int min2_int max_two min_two max_three min_three max_four min_four   -- for this text's walks alone
set_option linter.unusedVariables false
set_option linter.unusedSimpArgs false

/-! ### laws_FnSlashes: function 3 -/
def laws_FnSlashes.f (k : Nat) (a0 : ByteArray) : Option (Bool) := if (a0.size : Int) > 2147483647 then (some true) else (if (a0.size : Int) > 65536 then (some true) else ((impl_AddTrailingSlash.f a0).bind fun t144 => ((spec_AddTrailingSlash.f a0).bind fun t145 => (if t144.toList = t145.toList then ((impl_AddLeadingSlash.f a0).bind fun t146 => ((spec_AddLeadingSlash.f a0).bind fun t147 => (if t146.toList = t147.toList then ((impl_AddBothSlashes.f a0).bind fun t148 => ((spec_AddBothSlashes.f a0).bind fun t149 => (if t148.toList = t149.toList then ((impl_TrimLeading.f a0).bind fun t150 => ((spec_TrimLeading.f a0).bind fun t151 => (if t150.toList = t151.toList then ((impl_TrimTrailing.f a0).bind fun t152 => ((spec_TrimTrailing.f a0).bind fun t153 => (if t152.toList = t153.toList then ((impl_ToSlashTrim.f k a0).bind fun t154 => ((spec_ToSlashTrim.f k a0).bind fun t155 => (if t154.toList = t155.toList then ((impl_ToSlashTrimLeading.f a0).bind fun t156 => ((spec_ToSlashTrimLeading.f a0).bind fun t157 => (if t156.toList = t157.toList then ((impl_ToSlashTrimTrailing.f a0).bind fun t158 => ((spec_ToSlashTrimTrailing.f a0).bind fun t159 => (if t158.toList = t159.toList then ((impl_ToSlashPreserveLeading.f k a0).bind fun t160 => ((spec_ToSlashPreserveLeading.f k a0).bind fun t161 => (some (t160.toList == t161.toList)))) else (some false)))) else (some false)))) else (some false)))) else (some false)))) else (some false)))) else (some false)))) else (some false)))) else (some false)))))
theorem laws_FnSlashes.mono : ∀ a0 k, LeO (laws_FnSlashes.f k a0) (laws_FnSlashes.f (k + 1) a0) := by
  intro a0 k
  unfold laws_FnSlashes.f
  repeat' first
      | (with_reducible exact impl_ToSlashPreserveLeading.mono _ _)
      | (with_reducible exact impl_ToSlashTrim.mono _ _)
      | (with_reducible exact spec_ToSlashPreserveLeading.mono _ _)
      | (with_reducible exact spec_ToSlashTrim.mono _ _)
      | (with_reducible exact LeO.refl _)
      | (with_reducible exact LeO.none _)
      | (with_reducible refine LeO.ite ?_ ?_)
      | (with_reducible refine LeO.bind ?_ (fun _ => ?_))
      | exact impl_ToSlashPreserveLeading.mono _ _
      | exact impl_ToSlashTrim.mono _ _
      | exact spec_ToSlashPreserveLeading.mono _ _
      | exact spec_ToSlashTrim.mono _ _
      | exact LeO.none _
      | refine LeO.ite ?_ ?_
      | refine LeO.bind ?_ (fun _ => ?_)
set_option maxHeartbeats 8000000 in
set_option maxRecDepth 100000 in
theorem laws_FnSlashes.calls (k : Nat) (a0 : ByteArray) (r : Bool) (w : World) (h : laws_FnSlashes.f k a0 = some r) :
    Calls Try.prog 3 #[.string a0] w fun e w' => e = .returned (.bool r) ∧ Below w.heap.size w w' := by
  have HB := Aside0.mk (Below.refl w.heap.size w)
  have H : (if (a0.size : Int) > 2147483647 then (some true) else (if (a0.size : Int) > 65536 then (some true) else ((impl_AddTrailingSlash.f a0).bind fun t144 => ((spec_AddTrailingSlash.f a0).bind fun t145 => (if t144.toList = t145.toList then ((impl_AddLeadingSlash.f a0).bind fun t146 => ((spec_AddLeadingSlash.f a0).bind fun t147 => (if t146.toList = t147.toList then ((impl_AddBothSlashes.f a0).bind fun t148 => ((spec_AddBothSlashes.f a0).bind fun t149 => (if t148.toList = t149.toList then ((impl_TrimLeading.f a0).bind fun t150 => ((spec_TrimLeading.f a0).bind fun t151 => (if t150.toList = t151.toList then ((impl_TrimTrailing.f a0).bind fun t152 => ((spec_TrimTrailing.f a0).bind fun t153 => (if t152.toList = t153.toList then ((impl_ToSlashTrim.f k a0).bind fun t154 => ((spec_ToSlashTrim.f k a0).bind fun t155 => (if t154.toList = t155.toList then ((impl_ToSlashTrimLeading.f a0).bind fun t156 => ((spec_ToSlashTrimLeading.f a0).bind fun t157 => (if t156.toList = t157.toList then ((impl_ToSlashTrimTrailing.f a0).bind fun t158 => ((spec_ToSlashTrimTrailing.f a0).bind fun t159 => (if t158.toList = t159.toList then ((impl_ToSlashPreserveLeading.f k a0).bind fun t160 => ((spec_ToSlashPreserveLeading.f k a0).bind fun t161 => (some (t160.toList == t161.toList)))) else (some false)))) else (some false)))) else (some false)))) else (some false)))) else (some false)))) else (some false)))) else (some false)))) else (some false)))))) = some r := h
  clear h
  by_cases c2 : (a0.size : Int) > 2147483647
  · rw [if_pos c2] at H
    have c2b0 : decide (2147483647 < (a0.size : Int)) = true := decide_eq_true c2
    have c2b1 : decide (2147483647 < a0.size) = true := decide_eq_true (by omega)
    clear c2
    obtain rfl := Option.some.inj H
    go_enter Try.func3, Try.ntmps3
    go_wp2
    go_ret
    exact ⟨by first | rfl | (simp [errW_none, errW_some] <;> rfl) | (simp [*, errW_none, errW_some] <;> rfl), by repeat (first | (with_reducible first | exact HB.out | apply below_alloc | apply pw_below_drewN | apply below_drew1) | exact HB.out)⟩
  · rw [if_neg c2] at H
    have c2b0 : decide (2147483647 < (a0.size : Int)) = false := decide_eq_false c2
    have c2b1 : decide (2147483647 < a0.size) = false := decide_eq_false (by omega)
    clear c2
    by_cases c3 : (a0.size : Int) > 65536
    · rw [if_pos c3] at H
      have c3b0 : decide (65536 < (a0.size : Int)) = true := decide_eq_true c3
      have c3b1 : decide (65536 < a0.size) = true := decide_eq_true (by omega)
      clear c3
      obtain rfl := Option.some.inj H
      go_enter Try.func3, Try.ntmps3
      go_wp2
      go_ret
      exact ⟨by first | rfl | (simp [errW_none, errW_some] <;> rfl) | (simp [*, errW_none, errW_some] <;> rfl), by repeat (first | (with_reducible first | exact HB.out | apply below_alloc | apply pw_below_drewN | apply below_drew1) | exact HB.out)⟩
    · rw [if_neg c3] at H
      have c3b0 : decide (65536 < (a0.size : Int)) = false := decide_eq_false c3
      have c3b1 : decide (65536 < a0.size) = false := decide_eq_false (by omega)
      clear c3
      replace H := Option.bind_eq_some_iff.mp H
      obtain ⟨t144, A40, H⟩ := H
      replace H : ((spec_AddTrailingSlash.f a0).bind fun t145 => (if t144.toList = t145.toList then ((impl_AddLeadingSlash.f a0).bind fun t146 => ((spec_AddLeadingSlash.f a0).bind fun t147 => (if t146.toList = t147.toList then ((impl_AddBothSlashes.f a0).bind fun t148 => ((spec_AddBothSlashes.f a0).bind fun t149 => (if t148.toList = t149.toList then ((impl_TrimLeading.f a0).bind fun t150 => ((spec_TrimLeading.f a0).bind fun t151 => (if t150.toList = t151.toList then ((impl_TrimTrailing.f a0).bind fun t152 => ((spec_TrimTrailing.f a0).bind fun t153 => (if t152.toList = t153.toList then ((impl_ToSlashTrim.f k a0).bind fun t154 => ((spec_ToSlashTrim.f k a0).bind fun t155 => (if t154.toList = t155.toList then ((impl_ToSlashTrimLeading.f a0).bind fun t156 => ((spec_ToSlashTrimLeading.f a0).bind fun t157 => (if t156.toList = t157.toList then ((impl_ToSlashTrimTrailing.f a0).bind fun t158 => ((spec_ToSlashTrimTrailing.f a0).bind fun t159 => (if t158.toList = t159.toList then ((impl_ToSlashPreserveLeading.f k a0).bind fun t160 => ((spec_ToSlashPreserveLeading.f k a0).bind fun t161 => (some (t160.toList == t161.toList)))) else (some false)))) else (some false)))) else (some false)))) else (some false)))) else (some false)))) else (some false)))) else (some false)))) else (some false))) = some r := H
      have A4 := Aside0.mk A40
      clear A40
      replace H := Option.bind_eq_some_iff.mp H
      obtain ⟨t145, A50, H⟩ := H
      replace H : (if t144.toList = t145.toList then ((impl_AddLeadingSlash.f a0).bind fun t146 => ((spec_AddLeadingSlash.f a0).bind fun t147 => (if t146.toList = t147.toList then ((impl_AddBothSlashes.f a0).bind fun t148 => ((spec_AddBothSlashes.f a0).bind fun t149 => (if t148.toList = t149.toList then ((impl_TrimLeading.f a0).bind fun t150 => ((spec_TrimLeading.f a0).bind fun t151 => (if t150.toList = t151.toList then ((impl_TrimTrailing.f a0).bind fun t152 => ((spec_TrimTrailing.f a0).bind fun t153 => (if t152.toList = t153.toList then ((impl_ToSlashTrim.f k a0).bind fun t154 => ((spec_ToSlashTrim.f k a0).bind fun t155 => (if t154.toList = t155.toList then ((impl_ToSlashTrimLeading.f a0).bind fun t156 => ((spec_ToSlashTrimLeading.f a0).bind fun t157 => (if t156.toList = t157.toList then ((impl_ToSlashTrimTrailing.f a0).bind fun t158 => ((spec_ToSlashTrimTrailing.f a0).bind fun t159 => (if t158.toList = t159.toList then ((impl_ToSlashPreserveLeading.f k a0).bind fun t160 => ((spec_ToSlashPreserveLeading.f k a0).bind fun t161 => (some (t160.toList == t161.toList)))) else (some false)))) else (some false)))) else (some false)))) else (some false)))) else (some false)))) else (some false)))) else (some false)))) else (some false)) = some r := H
      have A5 := Aside0.mk A50
      clear A50
      by_cases c6 : t144.toList = t145.toList
      · rw [if_pos c6] at H
        have c6b0 : (t144.toList == t145.toList) = true := beq_iff_eq.mpr c6
        have c6b1 : (t144.toList != t145.toList) = false := bne_eq_false_iff_eq.mpr c6
        clear c6
        replace H := Option.bind_eq_some_iff.mp H
        obtain ⟨t146, A70, H⟩ := H
        replace H : ((spec_AddLeadingSlash.f a0).bind fun t147 => (if t146.toList = t147.toList then ((impl_AddBothSlashes.f a0).bind fun t148 => ((spec_AddBothSlashes.f a0).bind fun t149 => (if t148.toList = t149.toList then ((impl_TrimLeading.f a0).bind fun t150 => ((spec_TrimLeading.f a0).bind fun t151 => (if t150.toList = t151.toList then ((impl_TrimTrailing.f a0).bind fun t152 => ((spec_TrimTrailing.f a0).bind fun t153 => (if t152.toList = t153.toList then ((impl_ToSlashTrim.f k a0).bind fun t154 => ((spec_ToSlashTrim.f k a0).bind fun t155 => (if t154.toList = t155.toList then ((impl_ToSlashTrimLeading.f a0).bind fun t156 => ((spec_ToSlashTrimLeading.f a0).bind fun t157 => (if t156.toList = t157.toList then ((impl_ToSlashTrimTrailing.f a0).bind fun t158 => ((spec_ToSlashTrimTrailing.f a0).bind fun t159 => (if t158.toList = t159.toList then ((impl_ToSlashPreserveLeading.f k a0).bind fun t160 => ((spec_ToSlashPreserveLeading.f k a0).bind fun t161 => (some (t160.toList == t161.toList)))) else (some false)))) else (some false)))) else (some false)))) else (some false)))) else (some false)))) else (some false)))) else (some false))) = some r := H
        have A7 := Aside0.mk A70
        clear A70
        replace H := Option.bind_eq_some_iff.mp H
        obtain ⟨t147, A80, H⟩ := H
        replace H : (if t146.toList = t147.toList then ((impl_AddBothSlashes.f a0).bind fun t148 => ((spec_AddBothSlashes.f a0).bind fun t149 => (if t148.toList = t149.toList then ((impl_TrimLeading.f a0).bind fun t150 => ((spec_TrimLeading.f a0).bind fun t151 => (if t150.toList = t151.toList then ((impl_TrimTrailing.f a0).bind fun t152 => ((spec_TrimTrailing.f a0).bind fun t153 => (if t152.toList = t153.toList then ((impl_ToSlashTrim.f k a0).bind fun t154 => ((spec_ToSlashTrim.f k a0).bind fun t155 => (if t154.toList = t155.toList then ((impl_ToSlashTrimLeading.f a0).bind fun t156 => ((spec_ToSlashTrimLeading.f a0).bind fun t157 => (if t156.toList = t157.toList then ((impl_ToSlashTrimTrailing.f a0).bind fun t158 => ((spec_ToSlashTrimTrailing.f a0).bind fun t159 => (if t158.toList = t159.toList then ((impl_ToSlashPreserveLeading.f k a0).bind fun t160 => ((spec_ToSlashPreserveLeading.f k a0).bind fun t161 => (some (t160.toList == t161.toList)))) else (some false)))) else (some false)))) else (some false)))) else (some false)))) else (some false)))) else (some false)))) else (some false)) = some r := H
        have A8 := Aside0.mk A80
        clear A80
        by_cases c9 : t146.toList = t147.toList
        · rw [if_pos c9] at H
          have c9b0 : (t146.toList == t147.toList) = true := beq_iff_eq.mpr c9
          have c9b1 : (t146.toList != t147.toList) = false := bne_eq_false_iff_eq.mpr c9
          clear c9
          replace H := Option.bind_eq_some_iff.mp H
          obtain ⟨t148, A100, H⟩ := H
          replace H : ((spec_AddBothSlashes.f a0).bind fun t149 => (if t148.toList = t149.toList then ((impl_TrimLeading.f a0).bind fun t150 => ((spec_TrimLeading.f a0).bind fun t151 => (if t150.toList = t151.toList then ((impl_TrimTrailing.f a0).bind fun t152 => ((spec_TrimTrailing.f a0).bind fun t153 => (if t152.toList = t153.toList then ((impl_ToSlashTrim.f k a0).bind fun t154 => ((spec_ToSlashTrim.f k a0).bind fun t155 => (if t154.toList = t155.toList then ((impl_ToSlashTrimLeading.f a0).bind fun t156 => ((spec_ToSlashTrimLeading.f a0).bind fun t157 => (if t156.toList = t157.toList then ((impl_ToSlashTrimTrailing.f a0).bind fun t158 => ((spec_ToSlashTrimTrailing.f a0).bind fun t159 => (if t158.toList = t159.toList then ((impl_ToSlashPreserveLeading.f k a0).bind fun t160 => ((spec_ToSlashPreserveLeading.f k a0).bind fun t161 => (some (t160.toList == t161.toList)))) else (some false)))) else (some false)))) else (some false)))) else (some false)))) else (some false)))) else (some false))) = some r := H
          have A10 := Aside0.mk A100
          clear A100
          replace H := Option.bind_eq_some_iff.mp H
          obtain ⟨t149, A110, H⟩ := H
          replace H : (if t148.toList = t149.toList then ((impl_TrimLeading.f a0).bind fun t150 => ((spec_TrimLeading.f a0).bind fun t151 => (if t150.toList = t151.toList then ((impl_TrimTrailing.f a0).bind fun t152 => ((spec_TrimTrailing.f a0).bind fun t153 => (if t152.toList = t153.toList then ((impl_ToSlashTrim.f k a0).bind fun t154 => ((spec_ToSlashTrim.f k a0).bind fun t155 => (if t154.toList = t155.toList then ((impl_ToSlashTrimLeading.f a0).bind fun t156 => ((spec_ToSlashTrimLeading.f a0).bind fun t157 => (if t156.toList = t157.toList then ((impl_ToSlashTrimTrailing.f a0).bind fun t158 => ((spec_ToSlashTrimTrailing.f a0).bind fun t159 => (if t158.toList = t159.toList then ((impl_ToSlashPreserveLeading.f k a0).bind fun t160 => ((spec_ToSlashPreserveLeading.f k a0).bind fun t161 => (some (t160.toList == t161.toList)))) else (some false)))) else (some false)))) else (some false)))) else (some false)))) else (some false)))) else (some false)) = some r := H
          have A11 := Aside0.mk A110
          clear A110
          by_cases c12 : t148.toList = t149.toList
          · rw [if_pos c12] at H
            have c12b0 : (t148.toList == t149.toList) = true := beq_iff_eq.mpr c12
            have c12b1 : (t148.toList != t149.toList) = false := bne_eq_false_iff_eq.mpr c12
            clear c12
            replace H := Option.bind_eq_some_iff.mp H
            obtain ⟨t150, A130, H⟩ := H
            replace H : ((spec_TrimLeading.f a0).bind fun t151 => (if t150.toList = t151.toList then ((impl_TrimTrailing.f a0).bind fun t152 => ((spec_TrimTrailing.f a0).bind fun t153 => (if t152.toList = t153.toList then ((impl_ToSlashTrim.f k a0).bind fun t154 => ((spec_ToSlashTrim.f k a0).bind fun t155 => (if t154.toList = t155.toList then ((impl_ToSlashTrimLeading.f a0).bind fun t156 => ((spec_ToSlashTrimLeading.f a0).bind fun t157 => (if t156.toList = t157.toList then ((impl_ToSlashTrimTrailing.f a0).bind fun t158 => ((spec_ToSlashTrimTrailing.f a0).bind fun t159 => (if t158.toList = t159.toList then ((impl_ToSlashPreserveLeading.f k a0).bind fun t160 => ((spec_ToSlashPreserveLeading.f k a0).bind fun t161 => (some (t160.toList == t161.toList)))) else (some false)))) else (some false)))) else (some false)))) else (some false)))) else (some false))) = some r := H
            have A13 := Aside0.mk A130
            clear A130
            replace H := Option.bind_eq_some_iff.mp H
            obtain ⟨t151, A140, H⟩ := H
            replace H : (if t150.toList = t151.toList then ((impl_TrimTrailing.f a0).bind fun t152 => ((spec_TrimTrailing.f a0).bind fun t153 => (if t152.toList = t153.toList then ((impl_ToSlashTrim.f k a0).bind fun t154 => ((spec_ToSlashTrim.f k a0).bind fun t155 => (if t154.toList = t155.toList then ((impl_ToSlashTrimLeading.f a0).bind fun t156 => ((spec_ToSlashTrimLeading.f a0).bind fun t157 => (if t156.toList = t157.toList then ((impl_ToSlashTrimTrailing.f a0).bind fun t158 => ((spec_ToSlashTrimTrailing.f a0).bind fun t159 => (if t158.toList = t159.toList then ((impl_ToSlashPreserveLeading.f k a0).bind fun t160 => ((spec_ToSlashPreserveLeading.f k a0).bind fun t161 => (some (t160.toList == t161.toList)))) else (some false)))) else (some false)))) else (some false)))) else (some false)))) else (some false)) = some r := H
            have A14 := Aside0.mk A140
            clear A140
            by_cases c15 : t150.toList = t151.toList
            · rw [if_pos c15] at H
              have c15b0 : (t150.toList == t151.toList) = true := beq_iff_eq.mpr c15
              have c15b1 : (t150.toList != t151.toList) = false := bne_eq_false_iff_eq.mpr c15
              clear c15
              replace H := Option.bind_eq_some_iff.mp H
              obtain ⟨t152, A160, H⟩ := H
              replace H : ((spec_TrimTrailing.f a0).bind fun t153 => (if t152.toList = t153.toList then ((impl_ToSlashTrim.f k a0).bind fun t154 => ((spec_ToSlashTrim.f k a0).bind fun t155 => (if t154.toList = t155.toList then ((impl_ToSlashTrimLeading.f a0).bind fun t156 => ((spec_ToSlashTrimLeading.f a0).bind fun t157 => (if t156.toList = t157.toList then ((impl_ToSlashTrimTrailing.f a0).bind fun t158 => ((spec_ToSlashTrimTrailing.f a0).bind fun t159 => (if t158.toList = t159.toList then ((impl_ToSlashPreserveLeading.f k a0).bind fun t160 => ((spec_ToSlashPreserveLeading.f k a0).bind fun t161 => (some (t160.toList == t161.toList)))) else (some false)))) else (some false)))) else (some false)))) else (some false))) = some r := H
              have A16 := Aside0.mk A160
              clear A160
              replace H := Option.bind_eq_some_iff.mp H
              obtain ⟨t153, A170, H⟩ := H
              replace H : (if t152.toList = t153.toList then ((impl_ToSlashTrim.f k a0).bind fun t154 => ((spec_ToSlashTrim.f k a0).bind fun t155 => (if t154.toList = t155.toList then ((impl_ToSlashTrimLeading.f a0).bind fun t156 => ((spec_ToSlashTrimLeading.f a0).bind fun t157 => (if t156.toList = t157.toList then ((impl_ToSlashTrimTrailing.f a0).bind fun t158 => ((spec_ToSlashTrimTrailing.f a0).bind fun t159 => (if t158.toList = t159.toList then ((impl_ToSlashPreserveLeading.f k a0).bind fun t160 => ((spec_ToSlashPreserveLeading.f k a0).bind fun t161 => (some (t160.toList == t161.toList)))) else (some false)))) else (some false)))) else (some false)))) else (some false)) = some r := H
              have A17 := Aside0.mk A170
              clear A170
              by_cases c18 : t152.toList = t153.toList
              · rw [if_pos c18] at H
                have c18b0 : (t152.toList == t153.toList) = true := beq_iff_eq.mpr c18
                have c18b1 : (t152.toList != t153.toList) = false := bne_eq_false_iff_eq.mpr c18
                clear c18
                replace H := Option.bind_eq_some_iff.mp H
                obtain ⟨t154, A190, H⟩ := H
                replace H : ((spec_ToSlashTrim.f k a0).bind fun t155 => (if t154.toList = t155.toList then ((impl_ToSlashTrimLeading.f a0).bind fun t156 => ((spec_ToSlashTrimLeading.f a0).bind fun t157 => (if t156.toList = t157.toList then ((impl_ToSlashTrimTrailing.f a0).bind fun t158 => ((spec_ToSlashTrimTrailing.f a0).bind fun t159 => (if t158.toList = t159.toList then ((impl_ToSlashPreserveLeading.f k a0).bind fun t160 => ((spec_ToSlashPreserveLeading.f k a0).bind fun t161 => (some (t160.toList == t161.toList)))) else (some false)))) else (some false)))) else (some false))) = some r := H
                have A19 := Aside0.mk A190
                clear A190
                replace H := Option.bind_eq_some_iff.mp H
                obtain ⟨t155, A200, H⟩ := H
                replace H : (if t154.toList = t155.toList then ((impl_ToSlashTrimLeading.f a0).bind fun t156 => ((spec_ToSlashTrimLeading.f a0).bind fun t157 => (if t156.toList = t157.toList then ((impl_ToSlashTrimTrailing.f a0).bind fun t158 => ((spec_ToSlashTrimTrailing.f a0).bind fun t159 => (if t158.toList = t159.toList then ((impl_ToSlashPreserveLeading.f k a0).bind fun t160 => ((spec_ToSlashPreserveLeading.f k a0).bind fun t161 => (some (t160.toList == t161.toList)))) else (some false)))) else (some false)))) else (some false)) = some r := H
                have A20 := Aside0.mk A200
                clear A200
                by_cases c21 : t154.toList = t155.toList
                · rw [if_pos c21] at H
                  have c21b0 : (t154.toList == t155.toList) = true := beq_iff_eq.mpr c21
                  have c21b1 : (t154.toList != t155.toList) = false := bne_eq_false_iff_eq.mpr c21
                  clear c21
                  replace H := Option.bind_eq_some_iff.mp H
                  obtain ⟨t156, A220, H⟩ := H
                  replace H : ((spec_ToSlashTrimLeading.f a0).bind fun t157 => (if t156.toList = t157.toList then ((impl_ToSlashTrimTrailing.f a0).bind fun t158 => ((spec_ToSlashTrimTrailing.f a0).bind fun t159 => (if t158.toList = t159.toList then ((impl_ToSlashPreserveLeading.f k a0).bind fun t160 => ((spec_ToSlashPreserveLeading.f k a0).bind fun t161 => (some (t160.toList == t161.toList)))) else (some false)))) else (some false))) = some r := H
                  have A22 := Aside0.mk A220
                  clear A220
                  replace H := Option.bind_eq_some_iff.mp H
                  obtain ⟨t157, A230, H⟩ := H
                  replace H : (if t156.toList = t157.toList then ((impl_ToSlashTrimTrailing.f a0).bind fun t158 => ((spec_ToSlashTrimTrailing.f a0).bind fun t159 => (if t158.toList = t159.toList then ((impl_ToSlashPreserveLeading.f k a0).bind fun t160 => ((spec_ToSlashPreserveLeading.f k a0).bind fun t161 => (some (t160.toList == t161.toList)))) else (some false)))) else (some false)) = some r := H
                  have A23 := Aside0.mk A230
                  clear A230
                  by_cases c24 : t156.toList = t157.toList
                  · rw [if_pos c24] at H
                    have c24b0 : (t156.toList == t157.toList) = true := beq_iff_eq.mpr c24
                    have c24b1 : (t156.toList != t157.toList) = false := bne_eq_false_iff_eq.mpr c24
                    clear c24
                    replace H := Option.bind_eq_some_iff.mp H
                    obtain ⟨t158, A250, H⟩ := H
                    replace H : ((spec_ToSlashTrimTrailing.f a0).bind fun t159 => (if t158.toList = t159.toList then ((impl_ToSlashPreserveLeading.f k a0).bind fun t160 => ((spec_ToSlashPreserveLeading.f k a0).bind fun t161 => (some (t160.toList == t161.toList)))) else (some false))) = some r := H
                    have A25 := Aside0.mk A250
                    clear A250
                    replace H := Option.bind_eq_some_iff.mp H
                    obtain ⟨t159, A260, H⟩ := H
                    replace H : (if t158.toList = t159.toList then ((impl_ToSlashPreserveLeading.f k a0).bind fun t160 => ((spec_ToSlashPreserveLeading.f k a0).bind fun t161 => (some (t160.toList == t161.toList)))) else (some false)) = some r := H
                    have A26 := Aside0.mk A260
                    clear A260
                    by_cases c27 : t158.toList = t159.toList
                    · rw [if_pos c27] at H
                      have c27b0 : (t158.toList == t159.toList) = true := beq_iff_eq.mpr c27
                      have c27b1 : (t158.toList != t159.toList) = false := bne_eq_false_iff_eq.mpr c27
                      clear c27
                      replace H := Option.bind_eq_some_iff.mp H
                      obtain ⟨t160, A280, H⟩ := H
                      replace H : ((spec_ToSlashPreserveLeading.f k a0).bind fun t161 => (some (t160.toList == t161.toList))) = some r := H
                      have A28 := Aside0.mk A280
                      clear A280
                      replace H := Option.bind_eq_some_iff.mp H
                      obtain ⟨t161, A290, H⟩ := H
                      replace H : (some (t160.toList == t161.toList)) = some r := H
                      have A29 := Aside0.mk A290
                      clear A290
                      obtain rfl := Option.some.inj H
                      go_enter Try.func3, Try.ntmps3
                      go_wp2_with (first | ((with_reducible refine gate_callee (f := 9) rfl ?_); refine goesL_ (some 10) rfl rfl Try.func9 (by kernel_rfl) rfl #[.string a0] rfl (by (try simp only [List.map_toArray, List.map_cons, List.map_nil]); first | done | rfl | (simp only [List.length_drop, List.length_take]; rfl)) ?_; (with_reducible refine (impl_AddTrailingSlash.calls a0 t144 _ A4.out).mono ?_); rintro e w' ⟨rfl, ⟨nd, rfl⟩⟩; refine ⟨_, rfl, ?_⟩) | ((with_reducible refine gate_callee (f := 10) rfl ?_); refine goesL_ (some 12) rfl rfl Try.func10 (by kernel_rfl) rfl #[.string a0] rfl (by (try simp only [List.map_toArray, List.map_cons, List.map_nil]); first | done | rfl | (simp only [List.length_drop, List.length_take]; rfl)) ?_; (with_reducible refine (spec_AddTrailingSlash.calls a0 t145 _ A5.out).mono ?_); rintro e w' ⟨rfl, ⟨nd, rfl⟩⟩; refine ⟨_, rfl, ?_⟩) | (go_at_call 11; (with_reducible refine (impl_AddLeadingSlash.calls a0 t146 _ A7.out).mono ?_); rintro e w' ⟨rfl, ⟨nd, rfl⟩⟩) | (go_at_call 12; (with_reducible refine (spec_AddLeadingSlash.calls a0 t147 _ A8.out).mono ?_); rintro e w' ⟨rfl, ⟨nd, rfl⟩⟩) | (go_at_call 13; (with_reducible refine (impl_AddBothSlashes.calls a0 t148 _ A10.out).mono ?_); rintro e w' ⟨rfl, ⟨nd, rfl⟩⟩) | (go_at_call 14; (with_reducible refine (spec_AddBothSlashes.calls a0 t149 _ A11.out).mono ?_); rintro e w' ⟨rfl, ⟨nd, rfl⟩⟩) | (go_at_call 15; (with_reducible refine (impl_TrimLeading.calls a0 t150 _ A13.out).mono ?_); rintro e w' ⟨rfl, ⟨nd, rfl⟩⟩) | (go_at_call 16; (with_reducible refine (spec_TrimLeading.calls a0 t151 _ A14.out).mono ?_); rintro e w' ⟨rfl, ⟨nd, rfl⟩⟩) | (go_at_call 17; (with_reducible refine (impl_TrimTrailing.calls a0 t152 _ A16.out).mono ?_); rintro e w' ⟨rfl, ⟨nd, rfl⟩⟩) | (go_at_call 18; (with_reducible refine (spec_TrimTrailing.calls a0 t153 _ A17.out).mono ?_); rintro e w' ⟨rfl, ⟨nd, rfl⟩⟩) | (go_at_call 19; (with_reducible refine (impl_ToSlashTrim.calls k a0 t154 _ A19.out).mono ?_); rintro e w30 ⟨rfl, hb⟩; have n0_ := Aside0.mk (below_step (by repeat (first | (with_reducible first | exact HB.out | apply below_alloc | apply pw_below_drewN | apply below_drew1) | exact HB.out)) hb); clear HB; have HB := n0_; clear n0_; (try clear hb); (try clear hb2); (try clear hk); (try clear hi)) | (go_at_call 20; (with_reducible refine (spec_ToSlashTrim.calls k a0 t155 _ A20.out).mono ?_); rintro e w' ⟨rfl, ⟨nd, rfl⟩⟩) | (go_at_call 21; (with_reducible refine (impl_ToSlashTrimLeading.calls a0 t156 _ A22.out).mono ?_); rintro e w' ⟨rfl, ⟨nd, rfl⟩⟩) | (go_at_call 22; (with_reducible refine (spec_ToSlashTrimLeading.calls a0 t157 _ A23.out).mono ?_); rintro e w' ⟨rfl, ⟨nd, rfl⟩⟩) | (go_at_call 23; (with_reducible refine (impl_ToSlashTrimTrailing.calls a0 t158 _ A25.out).mono ?_); rintro e w' ⟨rfl, ⟨nd, rfl⟩⟩) | (go_at_call 24; (with_reducible refine (spec_ToSlashTrimTrailing.calls a0 t159 _ A26.out).mono ?_); rintro e w' ⟨rfl, ⟨nd, rfl⟩⟩) | (go_at_call 25; (with_reducible refine (impl_ToSlashPreserveLeading.calls k a0 t160 _ A28.out).mono ?_); rintro e w31 ⟨rfl, hb⟩; have n0_ := Aside0.mk (below_step (by repeat (first | (with_reducible first | exact HB.out | apply below_alloc | apply pw_below_drewN | apply below_drew1) | exact HB.out)) hb); clear HB; have HB := n0_; clear n0_; (try clear hb); (try clear hb2); (try clear hk); (try clear hi)) | (go_at_call 26; (with_reducible refine (spec_ToSlashPreserveLeading.calls k a0 t161 _ A29.out).mono ?_); rintro e w' ⟨rfl, ⟨nd, rfl⟩⟩))
                      go_ret
                      exact ⟨by first | rfl | (simp [errW_none, errW_some] <;> rfl) | (simp [*, errW_none, errW_some] <;> rfl), by repeat (first | (with_reducible first | exact HB.out | apply below_alloc | apply pw_below_drewN | apply below_drew1) | exact HB.out)⟩
                    · rw [if_neg c27] at H
                      have c27b0 : (t158.toList == t159.toList) = false := beq_eq_false_iff_ne.mpr c27
                      have c27b1 : (t158.toList != t159.toList) = true := bne_iff_ne.mpr c27
                      obtain rfl := Option.some.inj H
                      go_enter Try.func3, Try.ntmps3
                      go_wp2_with (first | ((with_reducible refine gate_callee (f := 9) rfl ?_); refine goesL_ (some 10) rfl rfl Try.func9 (by kernel_rfl) rfl #[.string a0] rfl (by (try simp only [List.map_toArray, List.map_cons, List.map_nil]); first | done | rfl | (simp only [List.length_drop, List.length_take]; rfl)) ?_; (with_reducible refine (impl_AddTrailingSlash.calls a0 t144 _ A4.out).mono ?_); rintro e w' ⟨rfl, ⟨nd, rfl⟩⟩; refine ⟨_, rfl, ?_⟩) | ((with_reducible refine gate_callee (f := 10) rfl ?_); refine goesL_ (some 12) rfl rfl Try.func10 (by kernel_rfl) rfl #[.string a0] rfl (by (try simp only [List.map_toArray, List.map_cons, List.map_nil]); first | done | rfl | (simp only [List.length_drop, List.length_take]; rfl)) ?_; (with_reducible refine (spec_AddTrailingSlash.calls a0 t145 _ A5.out).mono ?_); rintro e w' ⟨rfl, ⟨nd, rfl⟩⟩; refine ⟨_, rfl, ?_⟩) | (go_at_call 11; (with_reducible refine (impl_AddLeadingSlash.calls a0 t146 _ A7.out).mono ?_); rintro e w' ⟨rfl, ⟨nd, rfl⟩⟩) | (go_at_call 12; (with_reducible refine (spec_AddLeadingSlash.calls a0 t147 _ A8.out).mono ?_); rintro e w' ⟨rfl, ⟨nd, rfl⟩⟩) | (go_at_call 13; (with_reducible refine (impl_AddBothSlashes.calls a0 t148 _ A10.out).mono ?_); rintro e w' ⟨rfl, ⟨nd, rfl⟩⟩) | (go_at_call 14; (with_reducible refine (spec_AddBothSlashes.calls a0 t149 _ A11.out).mono ?_); rintro e w' ⟨rfl, ⟨nd, rfl⟩⟩) | (go_at_call 15; (with_reducible refine (impl_TrimLeading.calls a0 t150 _ A13.out).mono ?_); rintro e w' ⟨rfl, ⟨nd, rfl⟩⟩) | (go_at_call 16; (with_reducible refine (spec_TrimLeading.calls a0 t151 _ A14.out).mono ?_); rintro e w' ⟨rfl, ⟨nd, rfl⟩⟩) | (go_at_call 17; (with_reducible refine (impl_TrimTrailing.calls a0 t152 _ A16.out).mono ?_); rintro e w' ⟨rfl, ⟨nd, rfl⟩⟩) | (go_at_call 18; (with_reducible refine (spec_TrimTrailing.calls a0 t153 _ A17.out).mono ?_); rintro e w' ⟨rfl, ⟨nd, rfl⟩⟩) | (go_at_call 19; (with_reducible refine (impl_ToSlashTrim.calls k a0 t154 _ A19.out).mono ?_); rintro e w32 ⟨rfl, hb⟩; have n0_ := Aside0.mk (below_step (by repeat (first | (with_reducible first | exact HB.out | apply below_alloc | apply pw_below_drewN | apply below_drew1) | exact HB.out)) hb); clear HB; have HB := n0_; clear n0_; (try clear hb); (try clear hb2); (try clear hk); (try clear hi)) | (go_at_call 20; (with_reducible refine (spec_ToSlashTrim.calls k a0 t155 _ A20.out).mono ?_); rintro e w' ⟨rfl, ⟨nd, rfl⟩⟩) | (go_at_call 21; (with_reducible refine (impl_ToSlashTrimLeading.calls a0 t156 _ A22.out).mono ?_); rintro e w' ⟨rfl, ⟨nd, rfl⟩⟩) | (go_at_call 22; (with_reducible refine (spec_ToSlashTrimLeading.calls a0 t157 _ A23.out).mono ?_); rintro e w' ⟨rfl, ⟨nd, rfl⟩⟩) | (go_at_call 23; (with_reducible refine (impl_ToSlashTrimTrailing.calls a0 t158 _ A25.out).mono ?_); rintro e w' ⟨rfl, ⟨nd, rfl⟩⟩) | (go_at_call 24; (with_reducible refine (spec_ToSlashTrimTrailing.calls a0 t159 _ A26.out).mono ?_); rintro e w' ⟨rfl, ⟨nd, rfl⟩⟩))
                      go_ret
                      exact ⟨by first | rfl | (simp [errW_none, errW_some] <;> rfl) | (simp [*, errW_none, errW_some] <;> rfl), by repeat (first | (with_reducible first | exact HB.out | apply below_alloc | apply pw_below_drewN | apply below_drew1) | exact HB.out)⟩
                  · rw [if_neg c24] at H
                    have c24b0 : (t156.toList == t157.toList) = false := beq_eq_false_iff_ne.mpr c24
                    have c24b1 : (t156.toList != t157.toList) = true := bne_iff_ne.mpr c24
                    obtain rfl := Option.some.inj H
                    go_enter Try.func3, Try.ntmps3
                    go_wp2_with (first | ((with_reducible refine gate_callee (f := 9) rfl ?_); refine goesL_ (some 10) rfl rfl Try.func9 (by kernel_rfl) rfl #[.string a0] rfl (by (try simp only [List.map_toArray, List.map_cons, List.map_nil]); first | done | rfl | (simp only [List.length_drop, List.length_take]; rfl)) ?_; (with_reducible refine (impl_AddTrailingSlash.calls a0 t144 _ A4.out).mono ?_); rintro e w' ⟨rfl, ⟨nd, rfl⟩⟩; refine ⟨_, rfl, ?_⟩) | ((with_reducible refine gate_callee (f := 10) rfl ?_); refine goesL_ (some 12) rfl rfl Try.func10 (by kernel_rfl) rfl #[.string a0] rfl (by (try simp only [List.map_toArray, List.map_cons, List.map_nil]); first | done | rfl | (simp only [List.length_drop, List.length_take]; rfl)) ?_; (with_reducible refine (spec_AddTrailingSlash.calls a0 t145 _ A5.out).mono ?_); rintro e w' ⟨rfl, ⟨nd, rfl⟩⟩; refine ⟨_, rfl, ?_⟩) | (go_at_call 11; (with_reducible refine (impl_AddLeadingSlash.calls a0 t146 _ A7.out).mono ?_); rintro e w' ⟨rfl, ⟨nd, rfl⟩⟩) | (go_at_call 12; (with_reducible refine (spec_AddLeadingSlash.calls a0 t147 _ A8.out).mono ?_); rintro e w' ⟨rfl, ⟨nd, rfl⟩⟩) | (go_at_call 13; (with_reducible refine (impl_AddBothSlashes.calls a0 t148 _ A10.out).mono ?_); rintro e w' ⟨rfl, ⟨nd, rfl⟩⟩) | (go_at_call 14; (with_reducible refine (spec_AddBothSlashes.calls a0 t149 _ A11.out).mono ?_); rintro e w' ⟨rfl, ⟨nd, rfl⟩⟩) | (go_at_call 15; (with_reducible refine (impl_TrimLeading.calls a0 t150 _ A13.out).mono ?_); rintro e w' ⟨rfl, ⟨nd, rfl⟩⟩) | (go_at_call 16; (with_reducible refine (spec_TrimLeading.calls a0 t151 _ A14.out).mono ?_); rintro e w' ⟨rfl, ⟨nd, rfl⟩⟩) | (go_at_call 17; (with_reducible refine (impl_TrimTrailing.calls a0 t152 _ A16.out).mono ?_); rintro e w' ⟨rfl, ⟨nd, rfl⟩⟩) | (go_at_call 18; (with_reducible refine (spec_TrimTrailing.calls a0 t153 _ A17.out).mono ?_); rintro e w' ⟨rfl, ⟨nd, rfl⟩⟩) | (go_at_call 19; (with_reducible refine (impl_ToSlashTrim.calls k a0 t154 _ A19.out).mono ?_); rintro e w33 ⟨rfl, hb⟩; have n0_ := Aside0.mk (below_step (by repeat (first | (with_reducible first | exact HB.out | apply below_alloc | apply pw_below_drewN | apply below_drew1) | exact HB.out)) hb); clear HB; have HB := n0_; clear n0_; (try clear hb); (try clear hb2); (try clear hk); (try clear hi)) | (go_at_call 20; (with_reducible refine (spec_ToSlashTrim.calls k a0 t155 _ A20.out).mono ?_); rintro e w' ⟨rfl, ⟨nd, rfl⟩⟩) | (go_at_call 21; (with_reducible refine (impl_ToSlashTrimLeading.calls a0 t156 _ A22.out).mono ?_); rintro e w' ⟨rfl, ⟨nd, rfl⟩⟩) | (go_at_call 22; (with_reducible refine (spec_ToSlashTrimLeading.calls a0 t157 _ A23.out).mono ?_); rintro e w' ⟨rfl, ⟨nd, rfl⟩⟩))
                    go_ret
                    exact ⟨by first | rfl | (simp [errW_none, errW_some] <;> rfl) | (simp [*, errW_none, errW_some] <;> rfl), by repeat (first | (with_reducible first | exact HB.out | apply below_alloc | apply pw_below_drewN | apply below_drew1) | exact HB.out)⟩
                · rw [if_neg c21] at H
                  have c21b0 : (t154.toList == t155.toList) = false := beq_eq_false_iff_ne.mpr c21
                  have c21b1 : (t154.toList != t155.toList) = true := bne_iff_ne.mpr c21
                  obtain rfl := Option.some.inj H
                  go_enter Try.func3, Try.ntmps3
                  go_wp2_with (first | ((with_reducible refine gate_callee (f := 9) rfl ?_); refine goesL_ (some 10) rfl rfl Try.func9 (by kernel_rfl) rfl #[.string a0] rfl (by (try simp only [List.map_toArray, List.map_cons, List.map_nil]); first | done | rfl | (simp only [List.length_drop, List.length_take]; rfl)) ?_; (with_reducible refine (impl_AddTrailingSlash.calls a0 t144 _ A4.out).mono ?_); rintro e w' ⟨rfl, ⟨nd, rfl⟩⟩; refine ⟨_, rfl, ?_⟩) | ((with_reducible refine gate_callee (f := 10) rfl ?_); refine goesL_ (some 12) rfl rfl Try.func10 (by kernel_rfl) rfl #[.string a0] rfl (by (try simp only [List.map_toArray, List.map_cons, List.map_nil]); first | done | rfl | (simp only [List.length_drop, List.length_take]; rfl)) ?_; (with_reducible refine (spec_AddTrailingSlash.calls a0 t145 _ A5.out).mono ?_); rintro e w' ⟨rfl, ⟨nd, rfl⟩⟩; refine ⟨_, rfl, ?_⟩) | (go_at_call 11; (with_reducible refine (impl_AddLeadingSlash.calls a0 t146 _ A7.out).mono ?_); rintro e w' ⟨rfl, ⟨nd, rfl⟩⟩) | (go_at_call 12; (with_reducible refine (spec_AddLeadingSlash.calls a0 t147 _ A8.out).mono ?_); rintro e w' ⟨rfl, ⟨nd, rfl⟩⟩) | (go_at_call 13; (with_reducible refine (impl_AddBothSlashes.calls a0 t148 _ A10.out).mono ?_); rintro e w' ⟨rfl, ⟨nd, rfl⟩⟩) | (go_at_call 14; (with_reducible refine (spec_AddBothSlashes.calls a0 t149 _ A11.out).mono ?_); rintro e w' ⟨rfl, ⟨nd, rfl⟩⟩) | (go_at_call 15; (with_reducible refine (impl_TrimLeading.calls a0 t150 _ A13.out).mono ?_); rintro e w' ⟨rfl, ⟨nd, rfl⟩⟩) | (go_at_call 16; (with_reducible refine (spec_TrimLeading.calls a0 t151 _ A14.out).mono ?_); rintro e w' ⟨rfl, ⟨nd, rfl⟩⟩) | (go_at_call 17; (with_reducible refine (impl_TrimTrailing.calls a0 t152 _ A16.out).mono ?_); rintro e w' ⟨rfl, ⟨nd, rfl⟩⟩) | (go_at_call 18; (with_reducible refine (spec_TrimTrailing.calls a0 t153 _ A17.out).mono ?_); rintro e w' ⟨rfl, ⟨nd, rfl⟩⟩) | (go_at_call 19; (with_reducible refine (impl_ToSlashTrim.calls k a0 t154 _ A19.out).mono ?_); rintro e w34 ⟨rfl, hb⟩; have n0_ := Aside0.mk (below_step (by repeat (first | (with_reducible first | exact HB.out | apply below_alloc | apply pw_below_drewN | apply below_drew1) | exact HB.out)) hb); clear HB; have HB := n0_; clear n0_; (try clear hb); (try clear hb2); (try clear hk); (try clear hi)) | (go_at_call 20; (with_reducible refine (spec_ToSlashTrim.calls k a0 t155 _ A20.out).mono ?_); rintro e w' ⟨rfl, ⟨nd, rfl⟩⟩))
                  go_ret
                  exact ⟨by first | rfl | (simp [errW_none, errW_some] <;> rfl) | (simp [*, errW_none, errW_some] <;> rfl), by repeat (first | (with_reducible first | exact HB.out | apply below_alloc | apply pw_below_drewN | apply below_drew1) | exact HB.out)⟩
              · rw [if_neg c18] at H
                have c18b0 : (t152.toList == t153.toList) = false := beq_eq_false_iff_ne.mpr c18
                have c18b1 : (t152.toList != t153.toList) = true := bne_iff_ne.mpr c18
                obtain rfl := Option.some.inj H
                go_enter Try.func3, Try.ntmps3
                go_wp2_with (first | ((with_reducible refine gate_callee (f := 9) rfl ?_); refine goesL_ (some 10) rfl rfl Try.func9 (by kernel_rfl) rfl #[.string a0] rfl (by (try simp only [List.map_toArray, List.map_cons, List.map_nil]); first | done | rfl | (simp only [List.length_drop, List.length_take]; rfl)) ?_; (with_reducible refine (impl_AddTrailingSlash.calls a0 t144 _ A4.out).mono ?_); rintro e w' ⟨rfl, ⟨nd, rfl⟩⟩; refine ⟨_, rfl, ?_⟩) | ((with_reducible refine gate_callee (f := 10) rfl ?_); refine goesL_ (some 12) rfl rfl Try.func10 (by kernel_rfl) rfl #[.string a0] rfl (by (try simp only [List.map_toArray, List.map_cons, List.map_nil]); first | done | rfl | (simp only [List.length_drop, List.length_take]; rfl)) ?_; (with_reducible refine (spec_AddTrailingSlash.calls a0 t145 _ A5.out).mono ?_); rintro e w' ⟨rfl, ⟨nd, rfl⟩⟩; refine ⟨_, rfl, ?_⟩) | (go_at_call 11; (with_reducible refine (impl_AddLeadingSlash.calls a0 t146 _ A7.out).mono ?_); rintro e w' ⟨rfl, ⟨nd, rfl⟩⟩) | (go_at_call 12; (with_reducible refine (spec_AddLeadingSlash.calls a0 t147 _ A8.out).mono ?_); rintro e w' ⟨rfl, ⟨nd, rfl⟩⟩) | (go_at_call 13; (with_reducible refine (impl_AddBothSlashes.calls a0 t148 _ A10.out).mono ?_); rintro e w' ⟨rfl, ⟨nd, rfl⟩⟩) | (go_at_call 14; (with_reducible refine (spec_AddBothSlashes.calls a0 t149 _ A11.out).mono ?_); rintro e w' ⟨rfl, ⟨nd, rfl⟩⟩) | (go_at_call 15; (with_reducible refine (impl_TrimLeading.calls a0 t150 _ A13.out).mono ?_); rintro e w' ⟨rfl, ⟨nd, rfl⟩⟩) | (go_at_call 16; (with_reducible refine (spec_TrimLeading.calls a0 t151 _ A14.out).mono ?_); rintro e w' ⟨rfl, ⟨nd, rfl⟩⟩) | (go_at_call 17; (with_reducible refine (impl_TrimTrailing.calls a0 t152 _ A16.out).mono ?_); rintro e w' ⟨rfl, ⟨nd, rfl⟩⟩) | (go_at_call 18; (with_reducible refine (spec_TrimTrailing.calls a0 t153 _ A17.out).mono ?_); rintro e w' ⟨rfl, ⟨nd, rfl⟩⟩))
                go_ret
                exact ⟨by first | rfl | (simp [errW_none, errW_some] <;> rfl) | (simp [*, errW_none, errW_some] <;> rfl), by repeat (first | (with_reducible first | exact HB.out | apply below_alloc | apply pw_below_drewN | apply below_drew1) | exact HB.out)⟩
            · rw [if_neg c15] at H
              have c15b0 : (t150.toList == t151.toList) = false := beq_eq_false_iff_ne.mpr c15
              have c15b1 : (t150.toList != t151.toList) = true := bne_iff_ne.mpr c15
              obtain rfl := Option.some.inj H
              go_enter Try.func3, Try.ntmps3
              go_wp2_with (first | ((with_reducible refine gate_callee (f := 9) rfl ?_); refine goesL_ (some 10) rfl rfl Try.func9 (by kernel_rfl) rfl #[.string a0] rfl (by (try simp only [List.map_toArray, List.map_cons, List.map_nil]); first | done | rfl | (simp only [List.length_drop, List.length_take]; rfl)) ?_; (with_reducible refine (impl_AddTrailingSlash.calls a0 t144 _ A4.out).mono ?_); rintro e w' ⟨rfl, ⟨nd, rfl⟩⟩; refine ⟨_, rfl, ?_⟩) | ((with_reducible refine gate_callee (f := 10) rfl ?_); refine goesL_ (some 12) rfl rfl Try.func10 (by kernel_rfl) rfl #[.string a0] rfl (by (try simp only [List.map_toArray, List.map_cons, List.map_nil]); first | done | rfl | (simp only [List.length_drop, List.length_take]; rfl)) ?_; (with_reducible refine (spec_AddTrailingSlash.calls a0 t145 _ A5.out).mono ?_); rintro e w' ⟨rfl, ⟨nd, rfl⟩⟩; refine ⟨_, rfl, ?_⟩) | (go_at_call 11; (with_reducible refine (impl_AddLeadingSlash.calls a0 t146 _ A7.out).mono ?_); rintro e w' ⟨rfl, ⟨nd, rfl⟩⟩) | (go_at_call 12; (with_reducible refine (spec_AddLeadingSlash.calls a0 t147 _ A8.out).mono ?_); rintro e w' ⟨rfl, ⟨nd, rfl⟩⟩) | (go_at_call 13; (with_reducible refine (impl_AddBothSlashes.calls a0 t148 _ A10.out).mono ?_); rintro e w' ⟨rfl, ⟨nd, rfl⟩⟩) | (go_at_call 14; (with_reducible refine (spec_AddBothSlashes.calls a0 t149 _ A11.out).mono ?_); rintro e w' ⟨rfl, ⟨nd, rfl⟩⟩) | (go_at_call 15; (with_reducible refine (impl_TrimLeading.calls a0 t150 _ A13.out).mono ?_); rintro e w' ⟨rfl, ⟨nd, rfl⟩⟩) | (go_at_call 16; (with_reducible refine (spec_TrimLeading.calls a0 t151 _ A14.out).mono ?_); rintro e w' ⟨rfl, ⟨nd, rfl⟩⟩))
              go_ret
              exact ⟨by first | rfl | (simp [errW_none, errW_some] <;> rfl) | (simp [*, errW_none, errW_some] <;> rfl), by repeat (first | (with_reducible first | exact HB.out | apply below_alloc | apply pw_below_drewN | apply below_drew1) | exact HB.out)⟩
          · rw [if_neg c12] at H
            have c12b0 : (t148.toList == t149.toList) = false := beq_eq_false_iff_ne.mpr c12
            have c12b1 : (t148.toList != t149.toList) = true := bne_iff_ne.mpr c12
            obtain rfl := Option.some.inj H
            go_enter Try.func3, Try.ntmps3
            go_wp2_with (first | ((with_reducible refine gate_callee (f := 9) rfl ?_); refine goesL_ (some 10) rfl rfl Try.func9 (by kernel_rfl) rfl #[.string a0] rfl (by (try simp only [List.map_toArray, List.map_cons, List.map_nil]); first | done | rfl | (simp only [List.length_drop, List.length_take]; rfl)) ?_; (with_reducible refine (impl_AddTrailingSlash.calls a0 t144 _ A4.out).mono ?_); rintro e w' ⟨rfl, ⟨nd, rfl⟩⟩; refine ⟨_, rfl, ?_⟩) | ((with_reducible refine gate_callee (f := 10) rfl ?_); refine goesL_ (some 12) rfl rfl Try.func10 (by kernel_rfl) rfl #[.string a0] rfl (by (try simp only [List.map_toArray, List.map_cons, List.map_nil]); first | done | rfl | (simp only [List.length_drop, List.length_take]; rfl)) ?_; (with_reducible refine (spec_AddTrailingSlash.calls a0 t145 _ A5.out).mono ?_); rintro e w' ⟨rfl, ⟨nd, rfl⟩⟩; refine ⟨_, rfl, ?_⟩) | (go_at_call 11; (with_reducible refine (impl_AddLeadingSlash.calls a0 t146 _ A7.out).mono ?_); rintro e w' ⟨rfl, ⟨nd, rfl⟩⟩) | (go_at_call 12; (with_reducible refine (spec_AddLeadingSlash.calls a0 t147 _ A8.out).mono ?_); rintro e w' ⟨rfl, ⟨nd, rfl⟩⟩) | (go_at_call 13; (with_reducible refine (impl_AddBothSlashes.calls a0 t148 _ A10.out).mono ?_); rintro e w' ⟨rfl, ⟨nd, rfl⟩⟩) | (go_at_call 14; (with_reducible refine (spec_AddBothSlashes.calls a0 t149 _ A11.out).mono ?_); rintro e w' ⟨rfl, ⟨nd, rfl⟩⟩))
            go_ret
            exact ⟨by first | rfl | (simp [errW_none, errW_some] <;> rfl) | (simp [*, errW_none, errW_some] <;> rfl), by repeat (first | (with_reducible first | exact HB.out | apply below_alloc | apply pw_below_drewN | apply below_drew1) | exact HB.out)⟩
        · rw [if_neg c9] at H
          have c9b0 : (t146.toList == t147.toList) = false := beq_eq_false_iff_ne.mpr c9
          have c9b1 : (t146.toList != t147.toList) = true := bne_iff_ne.mpr c9
          obtain rfl := Option.some.inj H
          go_enter Try.func3, Try.ntmps3
          go_wp2_with (first | ((with_reducible refine gate_callee (f := 9) rfl ?_); refine goesL_ (some 10) rfl rfl Try.func9 (by kernel_rfl) rfl #[.string a0] rfl (by (try simp only [List.map_toArray, List.map_cons, List.map_nil]); first | done | rfl | (simp only [List.length_drop, List.length_take]; rfl)) ?_; (with_reducible refine (impl_AddTrailingSlash.calls a0 t144 _ A4.out).mono ?_); rintro e w' ⟨rfl, ⟨nd, rfl⟩⟩; refine ⟨_, rfl, ?_⟩) | ((with_reducible refine gate_callee (f := 10) rfl ?_); refine goesL_ (some 12) rfl rfl Try.func10 (by kernel_rfl) rfl #[.string a0] rfl (by (try simp only [List.map_toArray, List.map_cons, List.map_nil]); first | done | rfl | (simp only [List.length_drop, List.length_take]; rfl)) ?_; (with_reducible refine (spec_AddTrailingSlash.calls a0 t145 _ A5.out).mono ?_); rintro e w' ⟨rfl, ⟨nd, rfl⟩⟩; refine ⟨_, rfl, ?_⟩) | (go_at_call 11; (with_reducible refine (impl_AddLeadingSlash.calls a0 t146 _ A7.out).mono ?_); rintro e w' ⟨rfl, ⟨nd, rfl⟩⟩) | (go_at_call 12; (with_reducible refine (spec_AddLeadingSlash.calls a0 t147 _ A8.out).mono ?_); rintro e w' ⟨rfl, ⟨nd, rfl⟩⟩))
          go_ret
          exact ⟨by first | rfl | (simp [errW_none, errW_some] <;> rfl) | (simp [*, errW_none, errW_some] <;> rfl), by repeat (first | (with_reducible first | exact HB.out | apply below_alloc | apply pw_below_drewN | apply below_drew1) | exact HB.out)⟩
      · rw [if_neg c6] at H
        have c6b0 : (t144.toList == t145.toList) = false := beq_eq_false_iff_ne.mpr c6
        have c6b1 : (t144.toList != t145.toList) = true := bne_iff_ne.mpr c6
        obtain rfl := Option.some.inj H
        go_enter Try.func3, Try.ntmps3
        go_wp2_with (first | ((with_reducible refine gate_callee (f := 9) rfl ?_); refine goesL_ (some 10) rfl rfl Try.func9 (by kernel_rfl) rfl #[.string a0] rfl (by (try simp only [List.map_toArray, List.map_cons, List.map_nil]); first | done | rfl | (simp only [List.length_drop, List.length_take]; rfl)) ?_; (with_reducible refine (impl_AddTrailingSlash.calls a0 t144 _ A4.out).mono ?_); rintro e w' ⟨rfl, ⟨nd, rfl⟩⟩; refine ⟨_, rfl, ?_⟩) | ((with_reducible refine gate_callee (f := 10) rfl ?_); refine goesL_ (some 12) rfl rfl Try.func10 (by kernel_rfl) rfl #[.string a0] rfl (by (try simp only [List.map_toArray, List.map_cons, List.map_nil]); first | done | rfl | (simp only [List.length_drop, List.length_take]; rfl)) ?_; (with_reducible refine (spec_AddTrailingSlash.calls a0 t145 _ A5.out).mono ?_); rintro e w' ⟨rfl, ⟨nd, rfl⟩⟩; refine ⟨_, rfl, ?_⟩))
        go_ret
        exact ⟨by first | rfl | (simp [errW_none, errW_some] <;> rfl) | (simp [*, errW_none, errW_some] <;> rfl), by repeat (first | (with_reducible first | exact HB.out | apply below_alloc | apply pw_below_drewN | apply below_drew1) | exact HB.out)⟩

/-- THE ONE PURE STATEMENT of laws_FnSlashes: yours. -/
def laws_FnSlashes.Pure : Prop := ∀ (a0 : ByteArray), a0.size ≤ 140737488351232 → ∃ k, laws_FnSlashes.f k a0 = some true
theorem laws_FnSlashes.walk (P : laws_FnSlashes.Pure) (a0 : ByteArray) (w : World) (w0 : a0.size ≤ 140737488351232) :
    Calls Try.prog 3 #[.string a0] w fun e w' => e = .returned (.bool true) ∧ Below w.heap.size w w' := by
  obtain ⟨k, h⟩ := P a0 w0
  refine (laws_FnSlashes.calls k a0 true w h).mono ?_
  rintro e w' ⟨rfl, hd⟩
  exact ⟨rfl, hd⟩

end Go.Proofs.Ytckfbpgjegbmlaa.PFnSlashes
