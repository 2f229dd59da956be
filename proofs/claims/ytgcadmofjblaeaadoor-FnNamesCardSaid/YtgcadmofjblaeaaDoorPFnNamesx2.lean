/- Printed by a program of this session (a printer turned to take contracts that were proved by hand): functions with the answers of the Go functions, and proofs that the code comes to these answers; no condition beyond what each theorem names. -/
import Derived.Test.YtgcadmofjblaeaaDoorPFnNamesx0
import Derived.Test.YtgcadmofjblaeaaDoorPFnNamesx1
namespace Go.Proofs.YtgcadmofjblaeaaDoor.PFnNames
open Go.RowKit Go.Proofs.YtgcadmofjblaeaaDoorW.PrintWords Go.Proofs.YtgcadmofjblaeaaDoorW.PrintLast Go.Proofs.YtgcadmofjblaeaaDoorW.PrintMore
attribute [local go_sem] max2_int min2_int max_two min_two max_three min_three max_four min_four   -- for this text's walks alone
set_option linter.unusedVariables false
set_option linter.unusedSimpArgs false

/-! ### laws_FnNames: function 5 -/
def laws_FnNames.j0 : Nat → ByteArray → Bool → Option (Bool)
  | 0, _, _ => none
  | k + 1, x0, x25 => if x25 = true then (some true) else ((impl_FileAndExt.f x0).bind fun bt127 => ((spec_FileAndExt.f k x0).bind fun bt129 => ((impl_FileAndExtNoDelimiter.f x0).bind fun bt131 => ((spec_FileAndExtNoDelimiter.f k x0).bind fun bt133 => ((impl_PathAndExt.f x0).bind fun bt135 => ((spec_PathAndExt.f k x0).bind fun bt137 => (if bt127.1.toList = bt129.1.toList then (if bt127.2.toList = bt129.2.toList then (if bt131.1.toList = bt133.1.toList then (if bt131.2.toList = bt133.2.toList then (if bt135.1.toList = bt137.1.toList then (if bt135.2.toList = bt137.2.toList then ((impl_Ext.f x0).bind fun t139 => ((spec_Ext.f k x0).bind fun t140 => (if t139.toList = t140.toList then ((impl_ExtNoDelimiter.f x0).bind fun t141 => ((spec_ExtNoDelimiter.f k x0).bind fun t142 => (if t141.toList = t142.toList then ((impl_Filename.f x0).bind fun t143 => ((spec_Filename.f k x0).bind fun t144 => (some (t143.toList == t144.toList)))) else (some false)))) else (some false)))) else (some false)) else (some false)) else (some false)) else (some false)) else (some false)) else (some false))))))))
def laws_FnNames.f (k : Nat) (a0 : ByteArray) : Option (Bool) := if (a0.size : Int) > 2147483647 then (some true) else (if (a0.size : Int) > 65536 then (laws_FnNames.j0 k a0 true) else ((spec_NameKnown.f a0).bind fun t126 => (laws_FnNames.j0 k a0 (!t126))))
theorem laws_FnNames.mono_l : ∀ k, (∀ y0 y1, LeO (laws_FnNames.j0 k y0 y1) (laws_FnNames.j0 (k + 1) y0 y1))
  | 0 => fun _ _ r h => by simp [laws_FnNames.j0] at h
  | k + 1 => by
    have ih0 := laws_FnNames.mono_l k
    · intro y0 y1
      unfold laws_FnNames.j0
      repeat' first
      | (with_reducible exact ih0 _ _)
      | (with_reducible exact spec_Ext.mono _ _)
      | (with_reducible exact spec_ExtNoDelimiter.mono _ _)
      | (with_reducible exact spec_FileAndExt.mono _ _)
      | (with_reducible exact spec_FileAndExtNoDelimiter.mono _ _)
      | (with_reducible exact spec_Filename.mono _ _)
      | (with_reducible exact spec_PathAndExt.mono _ _)
      | (with_reducible exact LeO.refl _)
      | (with_reducible exact LeO.none _)
      | (with_reducible refine LeO.ite ?_ ?_)
      | (with_reducible refine LeO.bind ?_ (fun _ => ?_))
      | exact ih0 _ _
      | exact spec_Ext.mono _ _
      | exact spec_ExtNoDelimiter.mono _ _
      | exact spec_FileAndExt.mono _ _
      | exact spec_FileAndExtNoDelimiter.mono _ _
      | exact spec_Filename.mono _ _
      | exact spec_PathAndExt.mono _ _
      | exact LeO.none _
      | refine LeO.ite ?_ ?_
      | refine LeO.bind ?_ (fun _ => ?_)
theorem laws_FnNames.mono : ∀ a0 k, LeO (laws_FnNames.f k a0) (laws_FnNames.f (k + 1) a0) := by
  intro a0 k
  have ih0 := laws_FnNames.mono_l k
  unfold laws_FnNames.f
  repeat' first
      | (with_reducible exact ih0 _ _)
      | (with_reducible exact spec_Ext.mono _ _)
      | (with_reducible exact spec_ExtNoDelimiter.mono _ _)
      | (with_reducible exact spec_FileAndExt.mono _ _)
      | (with_reducible exact spec_FileAndExtNoDelimiter.mono _ _)
      | (with_reducible exact spec_Filename.mono _ _)
      | (with_reducible exact spec_PathAndExt.mono _ _)
      | (with_reducible exact LeO.refl _)
      | (with_reducible exact LeO.none _)
      | (with_reducible refine LeO.ite ?_ ?_)
      | (with_reducible refine LeO.bind ?_ (fun _ => ?_))
      | exact ih0 _ _
      | exact spec_Ext.mono _ _
      | exact spec_ExtNoDelimiter.mono _ _
      | exact spec_FileAndExt.mono _ _
      | exact spec_FileAndExtNoDelimiter.mono _ _
      | exact spec_Filename.mono _ _
      | exact spec_PathAndExt.mono _ _
      | exact LeO.none _
      | refine LeO.ite ?_ ?_
      | refine LeO.bind ?_ (fun _ => ?_)
set_option maxHeartbeats 8000000 in
set_option maxRecDepth 100000 in
theorem laws_FnNames.calls (k : Nat) (a0 : ByteArray) (r : Bool) (w : World) (h : laws_FnNames.f k a0 = some r) :
    Calls Tryd.prog 5 #[.string a0] w fun e w' => e = .returned (.bool r) ∧ Below w.heap.size w w' := by
  have HB := Aside0.mk (Below.refl w.heap.size w)
  have H : (if (a0.size : Int) > 2147483647 then (some true) else (if (a0.size : Int) > 65536 then (laws_FnNames.j0 k a0 true) else ((spec_NameKnown.f a0).bind fun t126 => (laws_FnNames.j0 k a0 (!t126))))) = some r := h
  clear h
  by_cases c2 : (a0.size : Int) > 2147483647
  · rw [if_pos c2] at H
    have c2b0 : decide (2147483647 < (a0.size : Int)) = true := decide_eq_true c2
    have c2b1 : decide (2147483647 < a0.size) = true := decide_eq_true (by omega)
    clear c2
    obtain rfl := Option.some.inj H
    go_enter Tryd.func5, Tryd.ntmps5
    go_wp2
    go_ret
    exact ⟨by first | rfl | (simp [errW_none, errW_some] <;> rfl) | (simp [*, errW_none, errW_some] <;> rfl), by repeat (first | (with_reducible first | exact HB.out | apply below_alloc | apply pw_below_drewN | apply below_drew1) | exact HB.out)⟩
  · rw [if_neg c2] at H
    have c2b0 : decide (2147483647 < (a0.size : Int)) = false := decide_eq_false c2
    have c2b1 : decide (2147483647 < a0.size) = false := decide_eq_false (by omega)
    clear c2
    have HC3 := Aside0.mk H
    clear H
    go_enter Tryd.func5, Tryd.ntmps5
    go_upto_region 3 with (fail)
    go_cut [25] (fun v25 wc => ∃ (kq : Nat) (x25_2 : Bool), v25 = .bool x25_2 ∧ Aside0 (laws_FnNames.j0 kq a0 x25_2 = some r) ∧ Aside0 (kq ≤ k) ∧ Aside0 (Below w.heap.size w wc))
    case first =>
      have H := HC3.out
      clear HC3
      by_cases c4 : (a0.size : Int) > 65536
      · rw [if_pos c4] at H
        have c4b0 : decide (65536 < (a0.size : Int)) = true := decide_eq_true c4
        have c4b1 : decide (65536 < a0.size) = true := decide_eq_true (by omega)
        clear c4
        (first | rw [c4b0] | (simp only [i64_w, i32_w]; rw [c4b0]) | skip)
        have H' := Aside0.mk H
        clear H
        go_wp2
        go_meet
        case rel => exact ⟨_, (true), (by first | rfl | (simp; done) | (simp [*]; done)), H', ⟨by first | omega | exact Nat.le_refl _⟩, ⟨by repeat (first | (with_reducible first | exact HB.out | apply below_alloc | apply pw_below_drewN | apply below_drew1) | exact HB.out)⟩⟩
      · rw [if_neg c4] at H
        have c4b0 : decide (65536 < (a0.size : Int)) = false := decide_eq_false c4
        have c4b1 : decide (65536 < a0.size) = false := decide_eq_false (by omega)
        clear c4
        (first | rw [c4b0] | (simp only [i64_w, i32_w]; rw [c4b0]) | skip)
        replace H := Option.bind_eq_some_iff.mp H
        obtain ⟨t126, A50, H⟩ := H
        replace H : (laws_FnNames.j0 k a0 (!t126)) = some r := H
        have A5 := Aside0.mk A50
        clear A50
        have H' := Aside0.mk H
        clear H
        go_wp2_with (first | (go_at_call 14; (with_reducible refine (spec_NameKnown.calls a0 t126 _ A5.out).mono ?_); rintro e w' ⟨rfl, ⟨nd, rfl⟩⟩))
        go_meet
        case rel => exact ⟨_, (!t126), (by first | rfl | (simp; done) | (simp [*]; done)), H', ⟨by first | omega | exact Nat.le_refl _⟩, ⟨by repeat (first | (with_reducible first | exact HB.out | apply below_alloc | apply pw_below_drewN | apply below_drew1) | exact HB.out)⟩⟩
    case rest =>
      clear HC3
      try clear c2
      try clear c2b0
      try clear c2b1
      try clear p2
      try clear c4
      try clear c4b0
      try clear c4b1
      try clear c5
      obtain ⟨kq, x25_2, rfl, HA, HJ2, HB⟩ := hcut
      cases kq with
      | zero => exact absurd HA.out (by simp [laws_FnNames.j0])
      | succ kj2 =>
        have H := HA.out
        clear HA
        simp only [laws_FnNames.j0] at H
        by_cases c6 : x25_2 = true
        · subst c6
          have H1 : (some true) = some r := by rw [if_pos rfl] at H; exact H
          clear H
          have H := H1
          clear H1
          obtain rfl := Option.some.inj H
          go_wp2
          go_ret
          exact ⟨by first | rfl | (simp [errW_none, errW_some] <;> rfl) | (simp [*, errW_none, errW_some] <;> rfl), by repeat (first | (with_reducible first | exact HB.out | apply below_alloc | apply pw_below_drewN | apply below_drew1) | exact HB.out)⟩
        · replace c6 := Bool.eq_false_iff.mpr c6
          subst c6
          have H1 : ((impl_FileAndExt.f a0).bind fun bt127 => ((spec_FileAndExt.f kj2 a0).bind fun bt129 => ((impl_FileAndExtNoDelimiter.f a0).bind fun bt131 => ((spec_FileAndExtNoDelimiter.f kj2 a0).bind fun bt133 => ((impl_PathAndExt.f a0).bind fun bt135 => ((spec_PathAndExt.f kj2 a0).bind fun bt137 => (if bt127.1.toList = bt129.1.toList then (if bt127.2.toList = bt129.2.toList then (if bt131.1.toList = bt133.1.toList then (if bt131.2.toList = bt133.2.toList then (if bt135.1.toList = bt137.1.toList then (if bt135.2.toList = bt137.2.toList then ((impl_Ext.f a0).bind fun t139 => ((spec_Ext.f kj2 a0).bind fun t140 => (if t139.toList = t140.toList then ((impl_ExtNoDelimiter.f a0).bind fun t141 => ((spec_ExtNoDelimiter.f kj2 a0).bind fun t142 => (if t141.toList = t142.toList then ((impl_Filename.f a0).bind fun t143 => ((spec_Filename.f kj2 a0).bind fun t144 => (some (t143.toList == t144.toList)))) else (some false)))) else (some false)))) else (some false)) else (some false)) else (some false)) else (some false)) else (some false)) else (some false)))))))) = some r := by rw [if_neg (show ¬ (false = true) by decide)] at H; exact H
          clear H
          have H := H1
          clear H1
          replace H := Option.bind_eq_some_iff.mp H
          obtain ⟨⟨t127, t128⟩, A70, H⟩ := H
          replace H : ((spec_FileAndExt.f kj2 a0).bind fun bt129 => ((impl_FileAndExtNoDelimiter.f a0).bind fun bt131 => ((spec_FileAndExtNoDelimiter.f kj2 a0).bind fun bt133 => ((impl_PathAndExt.f a0).bind fun bt135 => ((spec_PathAndExt.f kj2 a0).bind fun bt137 => (if t127.toList = bt129.1.toList then (if t128.toList = bt129.2.toList then (if bt131.1.toList = bt133.1.toList then (if bt131.2.toList = bt133.2.toList then (if bt135.1.toList = bt137.1.toList then (if bt135.2.toList = bt137.2.toList then ((impl_Ext.f a0).bind fun t139 => ((spec_Ext.f kj2 a0).bind fun t140 => (if t139.toList = t140.toList then ((impl_ExtNoDelimiter.f a0).bind fun t141 => ((spec_ExtNoDelimiter.f kj2 a0).bind fun t142 => (if t141.toList = t142.toList then ((impl_Filename.f a0).bind fun t143 => ((spec_Filename.f kj2 a0).bind fun t144 => (some (t143.toList == t144.toList)))) else (some false)))) else (some false)))) else (some false)) else (some false)) else (some false)) else (some false)) else (some false)) else (some false))))))) = some r := H
          have A7 := Aside0.mk A70
          clear A70
          replace H := Option.bind_eq_some_iff.mp H
          obtain ⟨⟨t129, t130⟩, A80, H⟩ := H
          replace H : ((impl_FileAndExtNoDelimiter.f a0).bind fun bt131 => ((spec_FileAndExtNoDelimiter.f kj2 a0).bind fun bt133 => ((impl_PathAndExt.f a0).bind fun bt135 => ((spec_PathAndExt.f kj2 a0).bind fun bt137 => (if t127.toList = t129.toList then (if t128.toList = t130.toList then (if bt131.1.toList = bt133.1.toList then (if bt131.2.toList = bt133.2.toList then (if bt135.1.toList = bt137.1.toList then (if bt135.2.toList = bt137.2.toList then ((impl_Ext.f a0).bind fun t139 => ((spec_Ext.f kj2 a0).bind fun t140 => (if t139.toList = t140.toList then ((impl_ExtNoDelimiter.f a0).bind fun t141 => ((spec_ExtNoDelimiter.f kj2 a0).bind fun t142 => (if t141.toList = t142.toList then ((impl_Filename.f a0).bind fun t143 => ((spec_Filename.f kj2 a0).bind fun t144 => (some (t143.toList == t144.toList)))) else (some false)))) else (some false)))) else (some false)) else (some false)) else (some false)) else (some false)) else (some false)) else (some false)))))) = some r := H
          have A8 := Aside0.mk A80
          clear A80
          replace H := Option.bind_eq_some_iff.mp H
          obtain ⟨⟨t131, t132⟩, A90, H⟩ := H
          replace H : ((spec_FileAndExtNoDelimiter.f kj2 a0).bind fun bt133 => ((impl_PathAndExt.f a0).bind fun bt135 => ((spec_PathAndExt.f kj2 a0).bind fun bt137 => (if t127.toList = t129.toList then (if t128.toList = t130.toList then (if t131.toList = bt133.1.toList then (if t132.toList = bt133.2.toList then (if bt135.1.toList = bt137.1.toList then (if bt135.2.toList = bt137.2.toList then ((impl_Ext.f a0).bind fun t139 => ((spec_Ext.f kj2 a0).bind fun t140 => (if t139.toList = t140.toList then ((impl_ExtNoDelimiter.f a0).bind fun t141 => ((spec_ExtNoDelimiter.f kj2 a0).bind fun t142 => (if t141.toList = t142.toList then ((impl_Filename.f a0).bind fun t143 => ((spec_Filename.f kj2 a0).bind fun t144 => (some (t143.toList == t144.toList)))) else (some false)))) else (some false)))) else (some false)) else (some false)) else (some false)) else (some false)) else (some false)) else (some false))))) = some r := H
          have A9 := Aside0.mk A90
          clear A90
          replace H := Option.bind_eq_some_iff.mp H
          obtain ⟨⟨t133, t134⟩, A100, H⟩ := H
          replace H : ((impl_PathAndExt.f a0).bind fun bt135 => ((spec_PathAndExt.f kj2 a0).bind fun bt137 => (if t127.toList = t129.toList then (if t128.toList = t130.toList then (if t131.toList = t133.toList then (if t132.toList = t134.toList then (if bt135.1.toList = bt137.1.toList then (if bt135.2.toList = bt137.2.toList then ((impl_Ext.f a0).bind fun t139 => ((spec_Ext.f kj2 a0).bind fun t140 => (if t139.toList = t140.toList then ((impl_ExtNoDelimiter.f a0).bind fun t141 => ((spec_ExtNoDelimiter.f kj2 a0).bind fun t142 => (if t141.toList = t142.toList then ((impl_Filename.f a0).bind fun t143 => ((spec_Filename.f kj2 a0).bind fun t144 => (some (t143.toList == t144.toList)))) else (some false)))) else (some false)))) else (some false)) else (some false)) else (some false)) else (some false)) else (some false)) else (some false)))) = some r := H
          have A10 := Aside0.mk A100
          clear A100
          replace H := Option.bind_eq_some_iff.mp H
          obtain ⟨⟨t135, t136⟩, A110, H⟩ := H
          replace H : ((spec_PathAndExt.f kj2 a0).bind fun bt137 => (if t127.toList = t129.toList then (if t128.toList = t130.toList then (if t131.toList = t133.toList then (if t132.toList = t134.toList then (if t135.toList = bt137.1.toList then (if t136.toList = bt137.2.toList then ((impl_Ext.f a0).bind fun t139 => ((spec_Ext.f kj2 a0).bind fun t140 => (if t139.toList = t140.toList then ((impl_ExtNoDelimiter.f a0).bind fun t141 => ((spec_ExtNoDelimiter.f kj2 a0).bind fun t142 => (if t141.toList = t142.toList then ((impl_Filename.f a0).bind fun t143 => ((spec_Filename.f kj2 a0).bind fun t144 => (some (t143.toList == t144.toList)))) else (some false)))) else (some false)))) else (some false)) else (some false)) else (some false)) else (some false)) else (some false)) else (some false))) = some r := H
          have A11 := Aside0.mk A110
          clear A110
          replace H := Option.bind_eq_some_iff.mp H
          obtain ⟨⟨t137, t138⟩, A120, H⟩ := H
          replace H : (if t127.toList = t129.toList then (if t128.toList = t130.toList then (if t131.toList = t133.toList then (if t132.toList = t134.toList then (if t135.toList = t137.toList then (if t136.toList = t138.toList then ((impl_Ext.f a0).bind fun t139 => ((spec_Ext.f kj2 a0).bind fun t140 => (if t139.toList = t140.toList then ((impl_ExtNoDelimiter.f a0).bind fun t141 => ((spec_ExtNoDelimiter.f kj2 a0).bind fun t142 => (if t141.toList = t142.toList then ((impl_Filename.f a0).bind fun t143 => ((spec_Filename.f kj2 a0).bind fun t144 => (some (t143.toList == t144.toList)))) else (some false)))) else (some false)))) else (some false)) else (some false)) else (some false)) else (some false)) else (some false)) else (some false)) = some r := H
          have A12 := Aside0.mk A120
          clear A120
          by_cases c13 : t127.toList = t129.toList
          · rw [if_pos c13] at H
            have c13b0 : (t127.toList == t129.toList) = true := beq_iff_eq.mpr c13
            have c13b1 : (t127.toList != t129.toList) = false := bne_eq_false_iff_eq.mpr c13
            clear c13
            by_cases c14 : t128.toList = t130.toList
            · rw [if_pos c14] at H
              have c14b0 : (t128.toList == t130.toList) = true := beq_iff_eq.mpr c14
              have c14b1 : (t128.toList != t130.toList) = false := bne_eq_false_iff_eq.mpr c14
              clear c14
              by_cases c15 : t131.toList = t133.toList
              · rw [if_pos c15] at H
                have c15b0 : (t131.toList == t133.toList) = true := beq_iff_eq.mpr c15
                have c15b1 : (t131.toList != t133.toList) = false := bne_eq_false_iff_eq.mpr c15
                clear c15
                by_cases c16 : t132.toList = t134.toList
                · rw [if_pos c16] at H
                  have c16b0 : (t132.toList == t134.toList) = true := beq_iff_eq.mpr c16
                  have c16b1 : (t132.toList != t134.toList) = false := bne_eq_false_iff_eq.mpr c16
                  clear c16
                  by_cases c17 : t135.toList = t137.toList
                  · rw [if_pos c17] at H
                    have c17b0 : (t135.toList == t137.toList) = true := beq_iff_eq.mpr c17
                    have c17b1 : (t135.toList != t137.toList) = false := bne_eq_false_iff_eq.mpr c17
                    clear c17
                    by_cases c18 : t136.toList = t138.toList
                    · rw [if_pos c18] at H
                      have c18b0 : (t136.toList == t138.toList) = true := beq_iff_eq.mpr c18
                      have c18b1 : (t136.toList != t138.toList) = false := bne_eq_false_iff_eq.mpr c18
                      clear c18
                      replace H := Option.bind_eq_some_iff.mp H
                      obtain ⟨t139, A190, H⟩ := H
                      replace H : ((spec_Ext.f kj2 a0).bind fun t140 => (if t139.toList = t140.toList then ((impl_ExtNoDelimiter.f a0).bind fun t141 => ((spec_ExtNoDelimiter.f kj2 a0).bind fun t142 => (if t141.toList = t142.toList then ((impl_Filename.f a0).bind fun t143 => ((spec_Filename.f kj2 a0).bind fun t144 => (some (t143.toList == t144.toList)))) else (some false)))) else (some false))) = some r := H
                      have A19 := Aside0.mk A190
                      clear A190
                      replace H := Option.bind_eq_some_iff.mp H
                      obtain ⟨t140, A200, H⟩ := H
                      replace H : (if t139.toList = t140.toList then ((impl_ExtNoDelimiter.f a0).bind fun t141 => ((spec_ExtNoDelimiter.f kj2 a0).bind fun t142 => (if t141.toList = t142.toList then ((impl_Filename.f a0).bind fun t143 => ((spec_Filename.f kj2 a0).bind fun t144 => (some (t143.toList == t144.toList)))) else (some false)))) else (some false)) = some r := H
                      have A20 := Aside0.mk A200
                      clear A200
                      by_cases c21 : t139.toList = t140.toList
                      · rw [if_pos c21] at H
                        have c21b0 : (t139.toList == t140.toList) = true := beq_iff_eq.mpr c21
                        have c21b1 : (t139.toList != t140.toList) = false := bne_eq_false_iff_eq.mpr c21
                        clear c21
                        replace H := Option.bind_eq_some_iff.mp H
                        obtain ⟨t141, A220, H⟩ := H
                        replace H : ((spec_ExtNoDelimiter.f kj2 a0).bind fun t142 => (if t141.toList = t142.toList then ((impl_Filename.f a0).bind fun t143 => ((spec_Filename.f kj2 a0).bind fun t144 => (some (t143.toList == t144.toList)))) else (some false))) = some r := H
                        have A22 := Aside0.mk A220
                        clear A220
                        replace H := Option.bind_eq_some_iff.mp H
                        obtain ⟨t142, A230, H⟩ := H
                        replace H : (if t141.toList = t142.toList then ((impl_Filename.f a0).bind fun t143 => ((spec_Filename.f kj2 a0).bind fun t144 => (some (t143.toList == t144.toList)))) else (some false)) = some r := H
                        have A23 := Aside0.mk A230
                        clear A230
                        by_cases c24 : t141.toList = t142.toList
                        · rw [if_pos c24] at H
                          have c24b0 : (t141.toList == t142.toList) = true := beq_iff_eq.mpr c24
                          have c24b1 : (t141.toList != t142.toList) = false := bne_eq_false_iff_eq.mpr c24
                          clear c24
                          replace H := Option.bind_eq_some_iff.mp H
                          obtain ⟨t143, A250, H⟩ := H
                          replace H : ((spec_Filename.f kj2 a0).bind fun t144 => (some (t143.toList == t144.toList))) = some r := H
                          have A25 := Aside0.mk A250
                          clear A250
                          replace H := Option.bind_eq_some_iff.mp H
                          obtain ⟨t144, A260, H⟩ := H
                          replace H : (some (t143.toList == t144.toList)) = some r := H
                          have A26 := Aside0.mk A260
                          clear A260
                          obtain rfl := Option.some.inj H
                          go_wp2_with (first | ((with_reducible refine gate_callee (f := 8) rfl ?_); refine goesL_ (some 28) rfl rfl Tryd.func8 (by kernel_rfl) rfl #[.string a0] rfl (by (try simp only [List.map_toArray, List.map_cons, List.map_nil]); first | done | rfl | (simp only [List.length_drop, List.length_take]; rfl)) ?_; (with_reducible refine (impl_FileAndExt.calls a0 t127 t128 _ A7.out).mono ?_); rintro e w27 ⟨rfl, hb⟩; refine ⟨_, rfl, ?_⟩; have n0_ := Aside0.mk (below_step (by repeat (first | (with_reducible first | exact HB.out | apply below_alloc | apply pw_below_drewN | apply below_drew1) | exact HB.out)) hb); clear HB; have HB := n0_; clear n0_; (try clear hb); (try clear hb2); (try clear hk); (try clear hi)) | ((with_reducible refine gate_callee (f := 15) rfl ?_); refine goesL_ (some 33) rfl rfl Tryd.func15 (by kernel_rfl) rfl #[.string a0] rfl (by (try simp only [List.map_toArray, List.map_cons, List.map_nil]); first | done | rfl | (simp only [List.length_drop, List.length_take]; rfl)) ?_; (with_reducible refine (spec_FileAndExt.calls kj2 a0 t129 t130 _ A8.out).mono ?_); rintro e w' ⟨rfl, ⟨nd, rfl⟩⟩; refine ⟨_, rfl, ?_⟩) | ((with_reducible refine gate_callee (f := 9) rfl ?_); refine goesL_ (some 38) rfl rfl Tryd.func9 (by kernel_rfl) rfl #[.string a0] rfl (by (try simp only [List.map_toArray, List.map_cons, List.map_nil]); first | done | rfl | (simp only [List.length_drop, List.length_take]; rfl)) ?_; (with_reducible refine (impl_FileAndExtNoDelimiter.calls a0 t131 t132 _ A9.out).mono ?_); rintro e w28 ⟨rfl, hb⟩; refine ⟨_, rfl, ?_⟩; have n0_ := Aside0.mk (below_step (by repeat (first | (with_reducible first | exact HB.out | apply below_alloc | apply pw_below_drewN | apply below_drew1) | exact HB.out)) hb); clear HB; have HB := n0_; clear n0_; (try clear hb); (try clear hb2); (try clear hk); (try clear hi)) | ((with_reducible refine gate_callee (f := 16) rfl ?_); refine goesL_ (some 43) rfl rfl Tryd.func16 (by kernel_rfl) rfl #[.string a0] rfl (by (try simp only [List.map_toArray, List.map_cons, List.map_nil]); first | done | rfl | (simp only [List.length_drop, List.length_take]; rfl)) ?_; (with_reducible refine (spec_FileAndExtNoDelimiter.calls kj2 a0 t133 t134 _ A10.out).mono ?_); rintro e w' ⟨rfl, ⟨nd, rfl⟩⟩; refine ⟨_, rfl, ?_⟩) | ((with_reducible refine gate_callee (f := 10) rfl ?_); refine goesL_ (some 48) rfl rfl Tryd.func10 (by kernel_rfl) rfl #[.string a0] rfl (by (try simp only [List.map_toArray, List.map_cons, List.map_nil]); first | done | rfl | (simp only [List.length_drop, List.length_take]; rfl)) ?_; (with_reducible refine (impl_PathAndExt.calls a0 t135 t136 _ A11.out).mono ?_); rintro e w29 ⟨rfl, hb⟩; refine ⟨_, rfl, ?_⟩; have n0_ := Aside0.mk (below_step (by repeat (first | (with_reducible first | exact HB.out | apply below_alloc | apply pw_below_drewN | apply below_drew1) | exact HB.out)) hb); clear HB; have HB := n0_; clear n0_; (try clear hb); (try clear hb2); (try clear hk); (try clear hi)) | ((with_reducible refine gate_callee (f := 17) rfl ?_); refine goesL_ (some 53) rfl rfl Tryd.func17 (by kernel_rfl) rfl #[.string a0] rfl (by (try simp only [List.map_toArray, List.map_cons, List.map_nil]); first | done | rfl | (simp only [List.length_drop, List.length_take]; rfl)) ?_; (with_reducible refine (spec_PathAndExt.calls kj2 a0 t137 t138 _ A12.out).mono ?_); rintro e w' ⟨rfl, ⟨nd, rfl⟩⟩; refine ⟨_, rfl, ?_⟩) | (go_at_call 6; (with_reducible refine (impl_Ext.calls a0 t139 _ A19.out).mono ?_); rintro e w30 ⟨rfl, hb⟩; have n0_ := Aside0.mk (below_step (by repeat (first | (with_reducible first | exact HB.out | apply below_alloc | apply pw_below_drewN | apply below_drew1) | exact HB.out)) hb); clear HB; have HB := n0_; clear n0_; (try clear hb); (try clear hb2); (try clear hk); (try clear hi)) | (go_at_call 18; (with_reducible refine (spec_Ext.calls kj2 a0 t140 _ A20.out).mono ?_); rintro e w' ⟨rfl, ⟨nd, rfl⟩⟩) | (go_at_call 7; (with_reducible refine (impl_ExtNoDelimiter.calls a0 t141 _ A22.out).mono ?_); rintro e w31 ⟨rfl, hb⟩; have n0_ := Aside0.mk (below_step (by repeat (first | (with_reducible first | exact HB.out | apply below_alloc | apply pw_below_drewN | apply below_drew1) | exact HB.out)) hb); clear HB; have HB := n0_; clear n0_; (try clear hb); (try clear hb2); (try clear hk); (try clear hi)) | (go_at_call 19; (with_reducible refine (spec_ExtNoDelimiter.calls kj2 a0 t142 _ A23.out).mono ?_); rintro e w' ⟨rfl, ⟨nd, rfl⟩⟩) | (go_at_call 13; (with_reducible refine (impl_Filename.calls a0 t143 _ A25.out).mono ?_); rintro e w32 ⟨rfl, hb⟩; have n0_ := Aside0.mk (below_step (by repeat (first | (with_reducible first | exact HB.out | apply below_alloc | apply pw_below_drewN | apply below_drew1) | exact HB.out)) hb); clear HB; have HB := n0_; clear n0_; (try clear hb); (try clear hb2); (try clear hk); (try clear hi)) | (go_at_call 20; (with_reducible refine (spec_Filename.calls kj2 a0 t144 _ A26.out).mono ?_); rintro e w' ⟨rfl, ⟨nd, rfl⟩⟩))
                          go_ret
                          exact ⟨by first | rfl | (simp [errW_none, errW_some] <;> rfl) | (simp [*, errW_none, errW_some] <;> rfl), by repeat (first | (with_reducible first | exact HB.out | apply below_alloc | apply pw_below_drewN | apply below_drew1) | exact HB.out)⟩
                        · rw [if_neg c24] at H
                          have c24b0 : (t141.toList == t142.toList) = false := beq_eq_false_iff_ne.mpr c24
                          have c24b1 : (t141.toList != t142.toList) = true := bne_iff_ne.mpr c24
                          obtain rfl := Option.some.inj H
                          go_wp2_with (first | ((with_reducible refine gate_callee (f := 8) rfl ?_); refine goesL_ (some 28) rfl rfl Tryd.func8 (by kernel_rfl) rfl #[.string a0] rfl (by (try simp only [List.map_toArray, List.map_cons, List.map_nil]); first | done | rfl | (simp only [List.length_drop, List.length_take]; rfl)) ?_; (with_reducible refine (impl_FileAndExt.calls a0 t127 t128 _ A7.out).mono ?_); rintro e w33 ⟨rfl, hb⟩; refine ⟨_, rfl, ?_⟩; have n0_ := Aside0.mk (below_step (by repeat (first | (with_reducible first | exact HB.out | apply below_alloc | apply pw_below_drewN | apply below_drew1) | exact HB.out)) hb); clear HB; have HB := n0_; clear n0_; (try clear hb); (try clear hb2); (try clear hk); (try clear hi)) | ((with_reducible refine gate_callee (f := 15) rfl ?_); refine goesL_ (some 33) rfl rfl Tryd.func15 (by kernel_rfl) rfl #[.string a0] rfl (by (try simp only [List.map_toArray, List.map_cons, List.map_nil]); first | done | rfl | (simp only [List.length_drop, List.length_take]; rfl)) ?_; (with_reducible refine (spec_FileAndExt.calls kj2 a0 t129 t130 _ A8.out).mono ?_); rintro e w' ⟨rfl, ⟨nd, rfl⟩⟩; refine ⟨_, rfl, ?_⟩) | ((with_reducible refine gate_callee (f := 9) rfl ?_); refine goesL_ (some 38) rfl rfl Tryd.func9 (by kernel_rfl) rfl #[.string a0] rfl (by (try simp only [List.map_toArray, List.map_cons, List.map_nil]); first | done | rfl | (simp only [List.length_drop, List.length_take]; rfl)) ?_; (with_reducible refine (impl_FileAndExtNoDelimiter.calls a0 t131 t132 _ A9.out).mono ?_); rintro e w34 ⟨rfl, hb⟩; refine ⟨_, rfl, ?_⟩; have n0_ := Aside0.mk (below_step (by repeat (first | (with_reducible first | exact HB.out | apply below_alloc | apply pw_below_drewN | apply below_drew1) | exact HB.out)) hb); clear HB; have HB := n0_; clear n0_; (try clear hb); (try clear hb2); (try clear hk); (try clear hi)) | ((with_reducible refine gate_callee (f := 16) rfl ?_); refine goesL_ (some 43) rfl rfl Tryd.func16 (by kernel_rfl) rfl #[.string a0] rfl (by (try simp only [List.map_toArray, List.map_cons, List.map_nil]); first | done | rfl | (simp only [List.length_drop, List.length_take]; rfl)) ?_; (with_reducible refine (spec_FileAndExtNoDelimiter.calls kj2 a0 t133 t134 _ A10.out).mono ?_); rintro e w' ⟨rfl, ⟨nd, rfl⟩⟩; refine ⟨_, rfl, ?_⟩) | ((with_reducible refine gate_callee (f := 10) rfl ?_); refine goesL_ (some 48) rfl rfl Tryd.func10 (by kernel_rfl) rfl #[.string a0] rfl (by (try simp only [List.map_toArray, List.map_cons, List.map_nil]); first | done | rfl | (simp only [List.length_drop, List.length_take]; rfl)) ?_; (with_reducible refine (impl_PathAndExt.calls a0 t135 t136 _ A11.out).mono ?_); rintro e w35 ⟨rfl, hb⟩; refine ⟨_, rfl, ?_⟩; have n0_ := Aside0.mk (below_step (by repeat (first | (with_reducible first | exact HB.out | apply below_alloc | apply pw_below_drewN | apply below_drew1) | exact HB.out)) hb); clear HB; have HB := n0_; clear n0_; (try clear hb); (try clear hb2); (try clear hk); (try clear hi)) | ((with_reducible refine gate_callee (f := 17) rfl ?_); refine goesL_ (some 53) rfl rfl Tryd.func17 (by kernel_rfl) rfl #[.string a0] rfl (by (try simp only [List.map_toArray, List.map_cons, List.map_nil]); first | done | rfl | (simp only [List.length_drop, List.length_take]; rfl)) ?_; (with_reducible refine (spec_PathAndExt.calls kj2 a0 t137 t138 _ A12.out).mono ?_); rintro e w' ⟨rfl, ⟨nd, rfl⟩⟩; refine ⟨_, rfl, ?_⟩) | (go_at_call 6; (with_reducible refine (impl_Ext.calls a0 t139 _ A19.out).mono ?_); rintro e w36 ⟨rfl, hb⟩; have n0_ := Aside0.mk (below_step (by repeat (first | (with_reducible first | exact HB.out | apply below_alloc | apply pw_below_drewN | apply below_drew1) | exact HB.out)) hb); clear HB; have HB := n0_; clear n0_; (try clear hb); (try clear hb2); (try clear hk); (try clear hi)) | (go_at_call 18; (with_reducible refine (spec_Ext.calls kj2 a0 t140 _ A20.out).mono ?_); rintro e w' ⟨rfl, ⟨nd, rfl⟩⟩) | (go_at_call 7; (with_reducible refine (impl_ExtNoDelimiter.calls a0 t141 _ A22.out).mono ?_); rintro e w37 ⟨rfl, hb⟩; have n0_ := Aside0.mk (below_step (by repeat (first | (with_reducible first | exact HB.out | apply below_alloc | apply pw_below_drewN | apply below_drew1) | exact HB.out)) hb); clear HB; have HB := n0_; clear n0_; (try clear hb); (try clear hb2); (try clear hk); (try clear hi)) | (go_at_call 19; (with_reducible refine (spec_ExtNoDelimiter.calls kj2 a0 t142 _ A23.out).mono ?_); rintro e w' ⟨rfl, ⟨nd, rfl⟩⟩))
                          go_ret
                          exact ⟨by first | rfl | (simp [errW_none, errW_some] <;> rfl) | (simp [*, errW_none, errW_some] <;> rfl), by repeat (first | (with_reducible first | exact HB.out | apply below_alloc | apply pw_below_drewN | apply below_drew1) | exact HB.out)⟩
                      · rw [if_neg c21] at H
                        have c21b0 : (t139.toList == t140.toList) = false := beq_eq_false_iff_ne.mpr c21
                        have c21b1 : (t139.toList != t140.toList) = true := bne_iff_ne.mpr c21
                        obtain rfl := Option.some.inj H
                        go_wp2_with (first | ((with_reducible refine gate_callee (f := 8) rfl ?_); refine goesL_ (some 28) rfl rfl Tryd.func8 (by kernel_rfl) rfl #[.string a0] rfl (by (try simp only [List.map_toArray, List.map_cons, List.map_nil]); first | done | rfl | (simp only [List.length_drop, List.length_take]; rfl)) ?_; (with_reducible refine (impl_FileAndExt.calls a0 t127 t128 _ A7.out).mono ?_); rintro e w38 ⟨rfl, hb⟩; refine ⟨_, rfl, ?_⟩; have n0_ := Aside0.mk (below_step (by repeat (first | (with_reducible first | exact HB.out | apply below_alloc | apply pw_below_drewN | apply below_drew1) | exact HB.out)) hb); clear HB; have HB := n0_; clear n0_; (try clear hb); (try clear hb2); (try clear hk); (try clear hi)) | ((with_reducible refine gate_callee (f := 15) rfl ?_); refine goesL_ (some 33) rfl rfl Tryd.func15 (by kernel_rfl) rfl #[.string a0] rfl (by (try simp only [List.map_toArray, List.map_cons, List.map_nil]); first | done | rfl | (simp only [List.length_drop, List.length_take]; rfl)) ?_; (with_reducible refine (spec_FileAndExt.calls kj2 a0 t129 t130 _ A8.out).mono ?_); rintro e w' ⟨rfl, ⟨nd, rfl⟩⟩; refine ⟨_, rfl, ?_⟩) | ((with_reducible refine gate_callee (f := 9) rfl ?_); refine goesL_ (some 38) rfl rfl Tryd.func9 (by kernel_rfl) rfl #[.string a0] rfl (by (try simp only [List.map_toArray, List.map_cons, List.map_nil]); first | done | rfl | (simp only [List.length_drop, List.length_take]; rfl)) ?_; (with_reducible refine (impl_FileAndExtNoDelimiter.calls a0 t131 t132 _ A9.out).mono ?_); rintro e w39 ⟨rfl, hb⟩; refine ⟨_, rfl, ?_⟩; have n0_ := Aside0.mk (below_step (by repeat (first | (with_reducible first | exact HB.out | apply below_alloc | apply pw_below_drewN | apply below_drew1) | exact HB.out)) hb); clear HB; have HB := n0_; clear n0_; (try clear hb); (try clear hb2); (try clear hk); (try clear hi)) | ((with_reducible refine gate_callee (f := 16) rfl ?_); refine goesL_ (some 43) rfl rfl Tryd.func16 (by kernel_rfl) rfl #[.string a0] rfl (by (try simp only [List.map_toArray, List.map_cons, List.map_nil]); first | done | rfl | (simp only [List.length_drop, List.length_take]; rfl)) ?_; (with_reducible refine (spec_FileAndExtNoDelimiter.calls kj2 a0 t133 t134 _ A10.out).mono ?_); rintro e w' ⟨rfl, ⟨nd, rfl⟩⟩; refine ⟨_, rfl, ?_⟩) | ((with_reducible refine gate_callee (f := 10) rfl ?_); refine goesL_ (some 48) rfl rfl Tryd.func10 (by kernel_rfl) rfl #[.string a0] rfl (by (try simp only [List.map_toArray, List.map_cons, List.map_nil]); first | done | rfl | (simp only [List.length_drop, List.length_take]; rfl)) ?_; (with_reducible refine (impl_PathAndExt.calls a0 t135 t136 _ A11.out).mono ?_); rintro e w40 ⟨rfl, hb⟩; refine ⟨_, rfl, ?_⟩; have n0_ := Aside0.mk (below_step (by repeat (first | (with_reducible first | exact HB.out | apply below_alloc | apply pw_below_drewN | apply below_drew1) | exact HB.out)) hb); clear HB; have HB := n0_; clear n0_; (try clear hb); (try clear hb2); (try clear hk); (try clear hi)) | ((with_reducible refine gate_callee (f := 17) rfl ?_); refine goesL_ (some 53) rfl rfl Tryd.func17 (by kernel_rfl) rfl #[.string a0] rfl (by (try simp only [List.map_toArray, List.map_cons, List.map_nil]); first | done | rfl | (simp only [List.length_drop, List.length_take]; rfl)) ?_; (with_reducible refine (spec_PathAndExt.calls kj2 a0 t137 t138 _ A12.out).mono ?_); rintro e w' ⟨rfl, ⟨nd, rfl⟩⟩; refine ⟨_, rfl, ?_⟩) | (go_at_call 6; (with_reducible refine (impl_Ext.calls a0 t139 _ A19.out).mono ?_); rintro e w41 ⟨rfl, hb⟩; have n0_ := Aside0.mk (below_step (by repeat (first | (with_reducible first | exact HB.out | apply below_alloc | apply pw_below_drewN | apply below_drew1) | exact HB.out)) hb); clear HB; have HB := n0_; clear n0_; (try clear hb); (try clear hb2); (try clear hk); (try clear hi)) | (go_at_call 18; (with_reducible refine (spec_Ext.calls kj2 a0 t140 _ A20.out).mono ?_); rintro e w' ⟨rfl, ⟨nd, rfl⟩⟩))
                        go_ret
                        exact ⟨by first | rfl | (simp [errW_none, errW_some] <;> rfl) | (simp [*, errW_none, errW_some] <;> rfl), by repeat (first | (with_reducible first | exact HB.out | apply below_alloc | apply pw_below_drewN | apply below_drew1) | exact HB.out)⟩
                    · rw [if_neg c18] at H
                      have c18b0 : (t136.toList == t138.toList) = false := beq_eq_false_iff_ne.mpr c18
                      have c18b1 : (t136.toList != t138.toList) = true := bne_iff_ne.mpr c18
                      obtain rfl := Option.some.inj H
                      go_wp2_with (first | ((with_reducible refine gate_callee (f := 8) rfl ?_); refine goesL_ (some 28) rfl rfl Tryd.func8 (by kernel_rfl) rfl #[.string a0] rfl (by (try simp only [List.map_toArray, List.map_cons, List.map_nil]); first | done | rfl | (simp only [List.length_drop, List.length_take]; rfl)) ?_; (with_reducible refine (impl_FileAndExt.calls a0 t127 t128 _ A7.out).mono ?_); rintro e w42 ⟨rfl, hb⟩; refine ⟨_, rfl, ?_⟩; have n0_ := Aside0.mk (below_step (by repeat (first | (with_reducible first | exact HB.out | apply below_alloc | apply pw_below_drewN | apply below_drew1) | exact HB.out)) hb); clear HB; have HB := n0_; clear n0_; (try clear hb); (try clear hb2); (try clear hk); (try clear hi)) | ((with_reducible refine gate_callee (f := 15) rfl ?_); refine goesL_ (some 33) rfl rfl Tryd.func15 (by kernel_rfl) rfl #[.string a0] rfl (by (try simp only [List.map_toArray, List.map_cons, List.map_nil]); first | done | rfl | (simp only [List.length_drop, List.length_take]; rfl)) ?_; (with_reducible refine (spec_FileAndExt.calls kj2 a0 t129 t130 _ A8.out).mono ?_); rintro e w' ⟨rfl, ⟨nd, rfl⟩⟩; refine ⟨_, rfl, ?_⟩) | ((with_reducible refine gate_callee (f := 9) rfl ?_); refine goesL_ (some 38) rfl rfl Tryd.func9 (by kernel_rfl) rfl #[.string a0] rfl (by (try simp only [List.map_toArray, List.map_cons, List.map_nil]); first | done | rfl | (simp only [List.length_drop, List.length_take]; rfl)) ?_; (with_reducible refine (impl_FileAndExtNoDelimiter.calls a0 t131 t132 _ A9.out).mono ?_); rintro e w43 ⟨rfl, hb⟩; refine ⟨_, rfl, ?_⟩; have n0_ := Aside0.mk (below_step (by repeat (first | (with_reducible first | exact HB.out | apply below_alloc | apply pw_below_drewN | apply below_drew1) | exact HB.out)) hb); clear HB; have HB := n0_; clear n0_; (try clear hb); (try clear hb2); (try clear hk); (try clear hi)) | ((with_reducible refine gate_callee (f := 16) rfl ?_); refine goesL_ (some 43) rfl rfl Tryd.func16 (by kernel_rfl) rfl #[.string a0] rfl (by (try simp only [List.map_toArray, List.map_cons, List.map_nil]); first | done | rfl | (simp only [List.length_drop, List.length_take]; rfl)) ?_; (with_reducible refine (spec_FileAndExtNoDelimiter.calls kj2 a0 t133 t134 _ A10.out).mono ?_); rintro e w' ⟨rfl, ⟨nd, rfl⟩⟩; refine ⟨_, rfl, ?_⟩) | ((with_reducible refine gate_callee (f := 10) rfl ?_); refine goesL_ (some 48) rfl rfl Tryd.func10 (by kernel_rfl) rfl #[.string a0] rfl (by (try simp only [List.map_toArray, List.map_cons, List.map_nil]); first | done | rfl | (simp only [List.length_drop, List.length_take]; rfl)) ?_; (with_reducible refine (impl_PathAndExt.calls a0 t135 t136 _ A11.out).mono ?_); rintro e w44 ⟨rfl, hb⟩; refine ⟨_, rfl, ?_⟩; have n0_ := Aside0.mk (below_step (by repeat (first | (with_reducible first | exact HB.out | apply below_alloc | apply pw_below_drewN | apply below_drew1) | exact HB.out)) hb); clear HB; have HB := n0_; clear n0_; (try clear hb); (try clear hb2); (try clear hk); (try clear hi)) | ((with_reducible refine gate_callee (f := 17) rfl ?_); refine goesL_ (some 53) rfl rfl Tryd.func17 (by kernel_rfl) rfl #[.string a0] rfl (by (try simp only [List.map_toArray, List.map_cons, List.map_nil]); first | done | rfl | (simp only [List.length_drop, List.length_take]; rfl)) ?_; (with_reducible refine (spec_PathAndExt.calls kj2 a0 t137 t138 _ A12.out).mono ?_); rintro e w' ⟨rfl, ⟨nd, rfl⟩⟩; refine ⟨_, rfl, ?_⟩))
                      go_ret
                      exact ⟨by first | rfl | (simp [errW_none, errW_some] <;> rfl) | (simp [*, errW_none, errW_some] <;> rfl), by repeat (first | (with_reducible first | exact HB.out | apply below_alloc | apply pw_below_drewN | apply below_drew1) | exact HB.out)⟩
                  · rw [if_neg c17] at H
                    have c17b0 : (t135.toList == t137.toList) = false := beq_eq_false_iff_ne.mpr c17
                    have c17b1 : (t135.toList != t137.toList) = true := bne_iff_ne.mpr c17
                    obtain rfl := Option.some.inj H
                    go_wp2_with (first | ((with_reducible refine gate_callee (f := 8) rfl ?_); refine goesL_ (some 28) rfl rfl Tryd.func8 (by kernel_rfl) rfl #[.string a0] rfl (by (try simp only [List.map_toArray, List.map_cons, List.map_nil]); first | done | rfl | (simp only [List.length_drop, List.length_take]; rfl)) ?_; (with_reducible refine (impl_FileAndExt.calls a0 t127 t128 _ A7.out).mono ?_); rintro e w45 ⟨rfl, hb⟩; refine ⟨_, rfl, ?_⟩; have n0_ := Aside0.mk (below_step (by repeat (first | (with_reducible first | exact HB.out | apply below_alloc | apply pw_below_drewN | apply below_drew1) | exact HB.out)) hb); clear HB; have HB := n0_; clear n0_; (try clear hb); (try clear hb2); (try clear hk); (try clear hi)) | ((with_reducible refine gate_callee (f := 15) rfl ?_); refine goesL_ (some 33) rfl rfl Tryd.func15 (by kernel_rfl) rfl #[.string a0] rfl (by (try simp only [List.map_toArray, List.map_cons, List.map_nil]); first | done | rfl | (simp only [List.length_drop, List.length_take]; rfl)) ?_; (with_reducible refine (spec_FileAndExt.calls kj2 a0 t129 t130 _ A8.out).mono ?_); rintro e w' ⟨rfl, ⟨nd, rfl⟩⟩; refine ⟨_, rfl, ?_⟩) | ((with_reducible refine gate_callee (f := 9) rfl ?_); refine goesL_ (some 38) rfl rfl Tryd.func9 (by kernel_rfl) rfl #[.string a0] rfl (by (try simp only [List.map_toArray, List.map_cons, List.map_nil]); first | done | rfl | (simp only [List.length_drop, List.length_take]; rfl)) ?_; (with_reducible refine (impl_FileAndExtNoDelimiter.calls a0 t131 t132 _ A9.out).mono ?_); rintro e w46 ⟨rfl, hb⟩; refine ⟨_, rfl, ?_⟩; have n0_ := Aside0.mk (below_step (by repeat (first | (with_reducible first | exact HB.out | apply below_alloc | apply pw_below_drewN | apply below_drew1) | exact HB.out)) hb); clear HB; have HB := n0_; clear n0_; (try clear hb); (try clear hb2); (try clear hk); (try clear hi)) | ((with_reducible refine gate_callee (f := 16) rfl ?_); refine goesL_ (some 43) rfl rfl Tryd.func16 (by kernel_rfl) rfl #[.string a0] rfl (by (try simp only [List.map_toArray, List.map_cons, List.map_nil]); first | done | rfl | (simp only [List.length_drop, List.length_take]; rfl)) ?_; (with_reducible refine (spec_FileAndExtNoDelimiter.calls kj2 a0 t133 t134 _ A10.out).mono ?_); rintro e w' ⟨rfl, ⟨nd, rfl⟩⟩; refine ⟨_, rfl, ?_⟩) | ((with_reducible refine gate_callee (f := 10) rfl ?_); refine goesL_ (some 48) rfl rfl Tryd.func10 (by kernel_rfl) rfl #[.string a0] rfl (by (try simp only [List.map_toArray, List.map_cons, List.map_nil]); first | done | rfl | (simp only [List.length_drop, List.length_take]; rfl)) ?_; (with_reducible refine (impl_PathAndExt.calls a0 t135 t136 _ A11.out).mono ?_); rintro e w47 ⟨rfl, hb⟩; refine ⟨_, rfl, ?_⟩; have n0_ := Aside0.mk (below_step (by repeat (first | (with_reducible first | exact HB.out | apply below_alloc | apply pw_below_drewN | apply below_drew1) | exact HB.out)) hb); clear HB; have HB := n0_; clear n0_; (try clear hb); (try clear hb2); (try clear hk); (try clear hi)) | ((with_reducible refine gate_callee (f := 17) rfl ?_); refine goesL_ (some 53) rfl rfl Tryd.func17 (by kernel_rfl) rfl #[.string a0] rfl (by (try simp only [List.map_toArray, List.map_cons, List.map_nil]); first | done | rfl | (simp only [List.length_drop, List.length_take]; rfl)) ?_; (with_reducible refine (spec_PathAndExt.calls kj2 a0 t137 t138 _ A12.out).mono ?_); rintro e w' ⟨rfl, ⟨nd, rfl⟩⟩; refine ⟨_, rfl, ?_⟩))
                    go_ret
                    exact ⟨by first | rfl | (simp [errW_none, errW_some] <;> rfl) | (simp [*, errW_none, errW_some] <;> rfl), by repeat (first | (with_reducible first | exact HB.out | apply below_alloc | apply pw_below_drewN | apply below_drew1) | exact HB.out)⟩
                · rw [if_neg c16] at H
                  have c16b0 : (t132.toList == t134.toList) = false := beq_eq_false_iff_ne.mpr c16
                  have c16b1 : (t132.toList != t134.toList) = true := bne_iff_ne.mpr c16
                  obtain rfl := Option.some.inj H
                  go_wp2_with (first | ((with_reducible refine gate_callee (f := 8) rfl ?_); refine goesL_ (some 28) rfl rfl Tryd.func8 (by kernel_rfl) rfl #[.string a0] rfl (by (try simp only [List.map_toArray, List.map_cons, List.map_nil]); first | done | rfl | (simp only [List.length_drop, List.length_take]; rfl)) ?_; (with_reducible refine (impl_FileAndExt.calls a0 t127 t128 _ A7.out).mono ?_); rintro e w48 ⟨rfl, hb⟩; refine ⟨_, rfl, ?_⟩; have n0_ := Aside0.mk (below_step (by repeat (first | (with_reducible first | exact HB.out | apply below_alloc | apply pw_below_drewN | apply below_drew1) | exact HB.out)) hb); clear HB; have HB := n0_; clear n0_; (try clear hb); (try clear hb2); (try clear hk); (try clear hi)) | ((with_reducible refine gate_callee (f := 15) rfl ?_); refine goesL_ (some 33) rfl rfl Tryd.func15 (by kernel_rfl) rfl #[.string a0] rfl (by (try simp only [List.map_toArray, List.map_cons, List.map_nil]); first | done | rfl | (simp only [List.length_drop, List.length_take]; rfl)) ?_; (with_reducible refine (spec_FileAndExt.calls kj2 a0 t129 t130 _ A8.out).mono ?_); rintro e w' ⟨rfl, ⟨nd, rfl⟩⟩; refine ⟨_, rfl, ?_⟩) | ((with_reducible refine gate_callee (f := 9) rfl ?_); refine goesL_ (some 38) rfl rfl Tryd.func9 (by kernel_rfl) rfl #[.string a0] rfl (by (try simp only [List.map_toArray, List.map_cons, List.map_nil]); first | done | rfl | (simp only [List.length_drop, List.length_take]; rfl)) ?_; (with_reducible refine (impl_FileAndExtNoDelimiter.calls a0 t131 t132 _ A9.out).mono ?_); rintro e w49 ⟨rfl, hb⟩; refine ⟨_, rfl, ?_⟩; have n0_ := Aside0.mk (below_step (by repeat (first | (with_reducible first | exact HB.out | apply below_alloc | apply pw_below_drewN | apply below_drew1) | exact HB.out)) hb); clear HB; have HB := n0_; clear n0_; (try clear hb); (try clear hb2); (try clear hk); (try clear hi)) | ((with_reducible refine gate_callee (f := 16) rfl ?_); refine goesL_ (some 43) rfl rfl Tryd.func16 (by kernel_rfl) rfl #[.string a0] rfl (by (try simp only [List.map_toArray, List.map_cons, List.map_nil]); first | done | rfl | (simp only [List.length_drop, List.length_take]; rfl)) ?_; (with_reducible refine (spec_FileAndExtNoDelimiter.calls kj2 a0 t133 t134 _ A10.out).mono ?_); rintro e w' ⟨rfl, ⟨nd, rfl⟩⟩; refine ⟨_, rfl, ?_⟩) | ((with_reducible refine gate_callee (f := 10) rfl ?_); refine goesL_ (some 48) rfl rfl Tryd.func10 (by kernel_rfl) rfl #[.string a0] rfl (by (try simp only [List.map_toArray, List.map_cons, List.map_nil]); first | done | rfl | (simp only [List.length_drop, List.length_take]; rfl)) ?_; (with_reducible refine (impl_PathAndExt.calls a0 t135 t136 _ A11.out).mono ?_); rintro e w50 ⟨rfl, hb⟩; refine ⟨_, rfl, ?_⟩; have n0_ := Aside0.mk (below_step (by repeat (first | (with_reducible first | exact HB.out | apply below_alloc | apply pw_below_drewN | apply below_drew1) | exact HB.out)) hb); clear HB; have HB := n0_; clear n0_; (try clear hb); (try clear hb2); (try clear hk); (try clear hi)) | ((with_reducible refine gate_callee (f := 17) rfl ?_); refine goesL_ (some 53) rfl rfl Tryd.func17 (by kernel_rfl) rfl #[.string a0] rfl (by (try simp only [List.map_toArray, List.map_cons, List.map_nil]); first | done | rfl | (simp only [List.length_drop, List.length_take]; rfl)) ?_; (with_reducible refine (spec_PathAndExt.calls kj2 a0 t137 t138 _ A12.out).mono ?_); rintro e w' ⟨rfl, ⟨nd, rfl⟩⟩; refine ⟨_, rfl, ?_⟩))
                  go_ret
                  exact ⟨by first | rfl | (simp [errW_none, errW_some] <;> rfl) | (simp [*, errW_none, errW_some] <;> rfl), by repeat (first | (with_reducible first | exact HB.out | apply below_alloc | apply pw_below_drewN | apply below_drew1) | exact HB.out)⟩
              · rw [if_neg c15] at H
                have c15b0 : (t131.toList == t133.toList) = false := beq_eq_false_iff_ne.mpr c15
                have c15b1 : (t131.toList != t133.toList) = true := bne_iff_ne.mpr c15
                obtain rfl := Option.some.inj H
                go_wp2_with (first | ((with_reducible refine gate_callee (f := 8) rfl ?_); refine goesL_ (some 28) rfl rfl Tryd.func8 (by kernel_rfl) rfl #[.string a0] rfl (by (try simp only [List.map_toArray, List.map_cons, List.map_nil]); first | done | rfl | (simp only [List.length_drop, List.length_take]; rfl)) ?_; (with_reducible refine (impl_FileAndExt.calls a0 t127 t128 _ A7.out).mono ?_); rintro e w51 ⟨rfl, hb⟩; refine ⟨_, rfl, ?_⟩; have n0_ := Aside0.mk (below_step (by repeat (first | (with_reducible first | exact HB.out | apply below_alloc | apply pw_below_drewN | apply below_drew1) | exact HB.out)) hb); clear HB; have HB := n0_; clear n0_; (try clear hb); (try clear hb2); (try clear hk); (try clear hi)) | ((with_reducible refine gate_callee (f := 15) rfl ?_); refine goesL_ (some 33) rfl rfl Tryd.func15 (by kernel_rfl) rfl #[.string a0] rfl (by (try simp only [List.map_toArray, List.map_cons, List.map_nil]); first | done | rfl | (simp only [List.length_drop, List.length_take]; rfl)) ?_; (with_reducible refine (spec_FileAndExt.calls kj2 a0 t129 t130 _ A8.out).mono ?_); rintro e w' ⟨rfl, ⟨nd, rfl⟩⟩; refine ⟨_, rfl, ?_⟩) | ((with_reducible refine gate_callee (f := 9) rfl ?_); refine goesL_ (some 38) rfl rfl Tryd.func9 (by kernel_rfl) rfl #[.string a0] rfl (by (try simp only [List.map_toArray, List.map_cons, List.map_nil]); first | done | rfl | (simp only [List.length_drop, List.length_take]; rfl)) ?_; (with_reducible refine (impl_FileAndExtNoDelimiter.calls a0 t131 t132 _ A9.out).mono ?_); rintro e w52 ⟨rfl, hb⟩; refine ⟨_, rfl, ?_⟩; have n0_ := Aside0.mk (below_step (by repeat (first | (with_reducible first | exact HB.out | apply below_alloc | apply pw_below_drewN | apply below_drew1) | exact HB.out)) hb); clear HB; have HB := n0_; clear n0_; (try clear hb); (try clear hb2); (try clear hk); (try clear hi)) | ((with_reducible refine gate_callee (f := 16) rfl ?_); refine goesL_ (some 43) rfl rfl Tryd.func16 (by kernel_rfl) rfl #[.string a0] rfl (by (try simp only [List.map_toArray, List.map_cons, List.map_nil]); first | done | rfl | (simp only [List.length_drop, List.length_take]; rfl)) ?_; (with_reducible refine (spec_FileAndExtNoDelimiter.calls kj2 a0 t133 t134 _ A10.out).mono ?_); rintro e w' ⟨rfl, ⟨nd, rfl⟩⟩; refine ⟨_, rfl, ?_⟩) | ((with_reducible refine gate_callee (f := 10) rfl ?_); refine goesL_ (some 48) rfl rfl Tryd.func10 (by kernel_rfl) rfl #[.string a0] rfl (by (try simp only [List.map_toArray, List.map_cons, List.map_nil]); first | done | rfl | (simp only [List.length_drop, List.length_take]; rfl)) ?_; (with_reducible refine (impl_PathAndExt.calls a0 t135 t136 _ A11.out).mono ?_); rintro e w53 ⟨rfl, hb⟩; refine ⟨_, rfl, ?_⟩; have n0_ := Aside0.mk (below_step (by repeat (first | (with_reducible first | exact HB.out | apply below_alloc | apply pw_below_drewN | apply below_drew1) | exact HB.out)) hb); clear HB; have HB := n0_; clear n0_; (try clear hb); (try clear hb2); (try clear hk); (try clear hi)) | ((with_reducible refine gate_callee (f := 17) rfl ?_); refine goesL_ (some 53) rfl rfl Tryd.func17 (by kernel_rfl) rfl #[.string a0] rfl (by (try simp only [List.map_toArray, List.map_cons, List.map_nil]); first | done | rfl | (simp only [List.length_drop, List.length_take]; rfl)) ?_; (with_reducible refine (spec_PathAndExt.calls kj2 a0 t137 t138 _ A12.out).mono ?_); rintro e w' ⟨rfl, ⟨nd, rfl⟩⟩; refine ⟨_, rfl, ?_⟩))
                go_ret
                exact ⟨by first | rfl | (simp [errW_none, errW_some] <;> rfl) | (simp [*, errW_none, errW_some] <;> rfl), by repeat (first | (with_reducible first | exact HB.out | apply below_alloc | apply pw_below_drewN | apply below_drew1) | exact HB.out)⟩
            · rw [if_neg c14] at H
              have c14b0 : (t128.toList == t130.toList) = false := beq_eq_false_iff_ne.mpr c14
              have c14b1 : (t128.toList != t130.toList) = true := bne_iff_ne.mpr c14
              obtain rfl := Option.some.inj H
              go_wp2_with (first | ((with_reducible refine gate_callee (f := 8) rfl ?_); refine goesL_ (some 28) rfl rfl Tryd.func8 (by kernel_rfl) rfl #[.string a0] rfl (by (try simp only [List.map_toArray, List.map_cons, List.map_nil]); first | done | rfl | (simp only [List.length_drop, List.length_take]; rfl)) ?_; (with_reducible refine (impl_FileAndExt.calls a0 t127 t128 _ A7.out).mono ?_); rintro e w54 ⟨rfl, hb⟩; refine ⟨_, rfl, ?_⟩; have n0_ := Aside0.mk (below_step (by repeat (first | (with_reducible first | exact HB.out | apply below_alloc | apply pw_below_drewN | apply below_drew1) | exact HB.out)) hb); clear HB; have HB := n0_; clear n0_; (try clear hb); (try clear hb2); (try clear hk); (try clear hi)) | ((with_reducible refine gate_callee (f := 15) rfl ?_); refine goesL_ (some 33) rfl rfl Tryd.func15 (by kernel_rfl) rfl #[.string a0] rfl (by (try simp only [List.map_toArray, List.map_cons, List.map_nil]); first | done | rfl | (simp only [List.length_drop, List.length_take]; rfl)) ?_; (with_reducible refine (spec_FileAndExt.calls kj2 a0 t129 t130 _ A8.out).mono ?_); rintro e w' ⟨rfl, ⟨nd, rfl⟩⟩; refine ⟨_, rfl, ?_⟩) | ((with_reducible refine gate_callee (f := 9) rfl ?_); refine goesL_ (some 38) rfl rfl Tryd.func9 (by kernel_rfl) rfl #[.string a0] rfl (by (try simp only [List.map_toArray, List.map_cons, List.map_nil]); first | done | rfl | (simp only [List.length_drop, List.length_take]; rfl)) ?_; (with_reducible refine (impl_FileAndExtNoDelimiter.calls a0 t131 t132 _ A9.out).mono ?_); rintro e w55 ⟨rfl, hb⟩; refine ⟨_, rfl, ?_⟩; have n0_ := Aside0.mk (below_step (by repeat (first | (with_reducible first | exact HB.out | apply below_alloc | apply pw_below_drewN | apply below_drew1) | exact HB.out)) hb); clear HB; have HB := n0_; clear n0_; (try clear hb); (try clear hb2); (try clear hk); (try clear hi)) | ((with_reducible refine gate_callee (f := 16) rfl ?_); refine goesL_ (some 43) rfl rfl Tryd.func16 (by kernel_rfl) rfl #[.string a0] rfl (by (try simp only [List.map_toArray, List.map_cons, List.map_nil]); first | done | rfl | (simp only [List.length_drop, List.length_take]; rfl)) ?_; (with_reducible refine (spec_FileAndExtNoDelimiter.calls kj2 a0 t133 t134 _ A10.out).mono ?_); rintro e w' ⟨rfl, ⟨nd, rfl⟩⟩; refine ⟨_, rfl, ?_⟩) | ((with_reducible refine gate_callee (f := 10) rfl ?_); refine goesL_ (some 48) rfl rfl Tryd.func10 (by kernel_rfl) rfl #[.string a0] rfl (by (try simp only [List.map_toArray, List.map_cons, List.map_nil]); first | done | rfl | (simp only [List.length_drop, List.length_take]; rfl)) ?_; (with_reducible refine (impl_PathAndExt.calls a0 t135 t136 _ A11.out).mono ?_); rintro e w56 ⟨rfl, hb⟩; refine ⟨_, rfl, ?_⟩; have n0_ := Aside0.mk (below_step (by repeat (first | (with_reducible first | exact HB.out | apply below_alloc | apply pw_below_drewN | apply below_drew1) | exact HB.out)) hb); clear HB; have HB := n0_; clear n0_; (try clear hb); (try clear hb2); (try clear hk); (try clear hi)) | ((with_reducible refine gate_callee (f := 17) rfl ?_); refine goesL_ (some 53) rfl rfl Tryd.func17 (by kernel_rfl) rfl #[.string a0] rfl (by (try simp only [List.map_toArray, List.map_cons, List.map_nil]); first | done | rfl | (simp only [List.length_drop, List.length_take]; rfl)) ?_; (with_reducible refine (spec_PathAndExt.calls kj2 a0 t137 t138 _ A12.out).mono ?_); rintro e w' ⟨rfl, ⟨nd, rfl⟩⟩; refine ⟨_, rfl, ?_⟩))
              go_ret
              exact ⟨by first | rfl | (simp [errW_none, errW_some] <;> rfl) | (simp [*, errW_none, errW_some] <;> rfl), by repeat (first | (with_reducible first | exact HB.out | apply below_alloc | apply pw_below_drewN | apply below_drew1) | exact HB.out)⟩
          · rw [if_neg c13] at H
            have c13b0 : (t127.toList == t129.toList) = false := beq_eq_false_iff_ne.mpr c13
            have c13b1 : (t127.toList != t129.toList) = true := bne_iff_ne.mpr c13
            obtain rfl := Option.some.inj H
            go_wp2_with (first | ((with_reducible refine gate_callee (f := 8) rfl ?_); refine goesL_ (some 28) rfl rfl Tryd.func8 (by kernel_rfl) rfl #[.string a0] rfl (by (try simp only [List.map_toArray, List.map_cons, List.map_nil]); first | done | rfl | (simp only [List.length_drop, List.length_take]; rfl)) ?_; (with_reducible refine (impl_FileAndExt.calls a0 t127 t128 _ A7.out).mono ?_); rintro e w57 ⟨rfl, hb⟩; refine ⟨_, rfl, ?_⟩; have n0_ := Aside0.mk (below_step (by repeat (first | (with_reducible first | exact HB.out | apply below_alloc | apply pw_below_drewN | apply below_drew1) | exact HB.out)) hb); clear HB; have HB := n0_; clear n0_; (try clear hb); (try clear hb2); (try clear hk); (try clear hi)) | ((with_reducible refine gate_callee (f := 15) rfl ?_); refine goesL_ (some 33) rfl rfl Tryd.func15 (by kernel_rfl) rfl #[.string a0] rfl (by (try simp only [List.map_toArray, List.map_cons, List.map_nil]); first | done | rfl | (simp only [List.length_drop, List.length_take]; rfl)) ?_; (with_reducible refine (spec_FileAndExt.calls kj2 a0 t129 t130 _ A8.out).mono ?_); rintro e w' ⟨rfl, ⟨nd, rfl⟩⟩; refine ⟨_, rfl, ?_⟩) | ((with_reducible refine gate_callee (f := 9) rfl ?_); refine goesL_ (some 38) rfl rfl Tryd.func9 (by kernel_rfl) rfl #[.string a0] rfl (by (try simp only [List.map_toArray, List.map_cons, List.map_nil]); first | done | rfl | (simp only [List.length_drop, List.length_take]; rfl)) ?_; (with_reducible refine (impl_FileAndExtNoDelimiter.calls a0 t131 t132 _ A9.out).mono ?_); rintro e w58 ⟨rfl, hb⟩; refine ⟨_, rfl, ?_⟩; have n0_ := Aside0.mk (below_step (by repeat (first | (with_reducible first | exact HB.out | apply below_alloc | apply pw_below_drewN | apply below_drew1) | exact HB.out)) hb); clear HB; have HB := n0_; clear n0_; (try clear hb); (try clear hb2); (try clear hk); (try clear hi)) | ((with_reducible refine gate_callee (f := 16) rfl ?_); refine goesL_ (some 43) rfl rfl Tryd.func16 (by kernel_rfl) rfl #[.string a0] rfl (by (try simp only [List.map_toArray, List.map_cons, List.map_nil]); first | done | rfl | (simp only [List.length_drop, List.length_take]; rfl)) ?_; (with_reducible refine (spec_FileAndExtNoDelimiter.calls kj2 a0 t133 t134 _ A10.out).mono ?_); rintro e w' ⟨rfl, ⟨nd, rfl⟩⟩; refine ⟨_, rfl, ?_⟩) | ((with_reducible refine gate_callee (f := 10) rfl ?_); refine goesL_ (some 48) rfl rfl Tryd.func10 (by kernel_rfl) rfl #[.string a0] rfl (by (try simp only [List.map_toArray, List.map_cons, List.map_nil]); first | done | rfl | (simp only [List.length_drop, List.length_take]; rfl)) ?_; (with_reducible refine (impl_PathAndExt.calls a0 t135 t136 _ A11.out).mono ?_); rintro e w59 ⟨rfl, hb⟩; refine ⟨_, rfl, ?_⟩; have n0_ := Aside0.mk (below_step (by repeat (first | (with_reducible first | exact HB.out | apply below_alloc | apply pw_below_drewN | apply below_drew1) | exact HB.out)) hb); clear HB; have HB := n0_; clear n0_; (try clear hb); (try clear hb2); (try clear hk); (try clear hi)) | ((with_reducible refine gate_callee (f := 17) rfl ?_); refine goesL_ (some 53) rfl rfl Tryd.func17 (by kernel_rfl) rfl #[.string a0] rfl (by (try simp only [List.map_toArray, List.map_cons, List.map_nil]); first | done | rfl | (simp only [List.length_drop, List.length_take]; rfl)) ?_; (with_reducible refine (spec_PathAndExt.calls kj2 a0 t137 t138 _ A12.out).mono ?_); rintro e w' ⟨rfl, ⟨nd, rfl⟩⟩; refine ⟨_, rfl, ?_⟩))
            go_ret
            exact ⟨by first | rfl | (simp [errW_none, errW_some] <;> rfl) | (simp [*, errW_none, errW_some] <;> rfl), by repeat (first | (with_reducible first | exact HB.out | apply below_alloc | apply pw_below_drewN | apply below_drew1) | exact HB.out)⟩

/-- THE ONE PURE STATEMENT of laws_FnNames: yours. -/
def laws_FnNames.Pure : Prop := ∀ (a0 : ByteArray), a0.size ≤ 140737488351232 → ∃ k, laws_FnNames.f k a0 = some true
theorem laws_FnNames.walk (P : laws_FnNames.Pure) (a0 : ByteArray) (w : World) (w0 : a0.size ≤ 140737488351232) :
    Calls Tryd.prog 5 #[.string a0] w fun e w' => e = .returned (.bool true) ∧ Below w.heap.size w w' := by
  obtain ⟨k, h⟩ := P a0 w0
  refine (laws_FnNames.calls k a0 true w h).mono ?_
  rintro e w' ⟨rfl, hd⟩
  exact ⟨rfl, hd⟩

end Go.Proofs.YtgcadmofjblaeaaDoor.PFnNames
