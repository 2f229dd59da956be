/- Printed by a program of this session (a printer turned to take contracts that were proved by hand): functions with the answers of the Go functions, and proofs that the code comes to these answers; no condition beyond what each theorem names. -/
import Derived.Test.YtckfbpgjegbmlaaPFnSameCleanedx0
import Derived.Test.YtckfbpgjegbmlaaPFnSameCleanedx1
namespace Go.Proofs.Ytckfbpgjegbmlaa.PFnSameCleaned
open Go.RowKit Go.Proofs.YtckfbpgjegbmlaaW.PrintWords Go.Proofs.YtckfbpgjegbmlaaW.PrintLast Go.Proofs.YtckfbpgjegbmlaaW.PrintMore
attribute [local go_sem] max2_int min2_int max_two min_two max_three min_three max_four min_four   -- for this text's walks alone
set_option linter.unusedVariables false
set_option linter.unusedSimpArgs false

/-! ### laws_FnSameCleaned: function 5 -/
mutual
def laws_FnSameCleaned.j0 : Nat → List ByteArray → Int → Int → Bool → Option (Bool)
  | 0, _, _, _, _ => none
  | k + 1, x0, x1, x2, x31 => if x31 = true then (some true) else (laws_FnSameCleaned.l0 k x1 x2 (⟨#[]⟩ : ByteArray) (⟨#[]⟩ : ByteArray) x0 (x0.length : Int) 0)
def laws_FnSameCleaned.l0 : Nat → Int → Int → ByteArray → ByteArray → List ByteArray → Int → Int → Option (Bool)
  | 0, _, _, _, _, _, _, _ => none
  | k + 1, x1, x2, x7, x8, x32, x33, x34 => if x34 < x33 then (if 0 ≤ x34 then (if x34 < (x32.length : Int) then (if (rdOf ByteArray.empty x32 x34).toList = ([] : List UInt8) then (laws_FnSameCleaned.j2 k x1 x2 x7 x8 x34 (rdOf ByteArray.empty x32 x34) x32 x33 x34 true) else (if (rdOf ByteArray.empty x32 x34).toList = ([46] : List UInt8) then (laws_FnSameCleaned.j2 k x1 x2 x7 x8 x34 (rdOf ByteArray.empty x32 x34) x32 x33 x34 true) else (if (rdOf ByteArray.empty x32 x34).toList = ([46, 46] : List UInt8) then (laws_FnSameCleaned.j2 k x1 x2 x7 x8 x34 (rdOf ByteArray.empty x32 x34) x32 x33 x34 true) else ((laws_has.f k (rdOf ByteArray.empty x32 x34) (⟨#[47]⟩ : ByteArray)).bind fun t117 => (if t117 = true then (laws_FnSameCleaned.j2 k x1 x2 x7 x8 x34 (rdOf ByteArray.empty x32 x34) x32 x33 x34 true) else (laws_FnSameCleaned.j2 k x1 x2 x7 x8 x34 (rdOf ByteArray.empty x32 x34) x32 x33 x34 (decide (((rdOf ByteArray.empty x32 x34).size : Int) > 1000)))))))) else (none)) else (none)) else ((impl_SameFilePath.f k x7 x8).bind fun t113 => (if t113 = true then (if 1 + x7.size ≤ 9223372036854775807 then (if x8.size + 1 ≤ 9223372036854775807 then ((impl_SameFilePath.f k ((⟨#[47]⟩ : ByteArray) ++ x7) (x8 ++ (⟨#[47]⟩ : ByteArray))).bind fun t114 => (if t114 = true then (if x7.size + 1 ≤ 9223372036854775807 then ((impl_SameFilePath.f k x7 (x7 ++ (⟨#[120]⟩ : ByteArray))).bind fun t115 => (some (!t115))) else (none)) else (some false))) else (none)) else (none)) else (some false)))
def laws_FnSameCleaned.j2 : Nat → Int → Int → ByteArray → ByteArray → Int → ByteArray → List ByteArray → Int → Int → Bool → Option (Bool)
  | 0, _, _, _, _, _, _, _, _, _, _ => none
  | k + 1, x1, x2, x7, x8, x9, x10, x32, x33, x34, x57 => if x57 = true then (some true) else (if x9 > 0 then (if x7.size + 1 ≤ 9223372036854775807 then (if x8.size + 1 ≤ 9223372036854775807 then (if x9 = x1 then ((some (([(⟨#[46, 47]⟩ : ByteArray), (⟨#[120, 47, 46, 46, 47]⟩ : ByteArray), (⟨#[46, 47, 121, 47, 46, 47, 46, 46, 47]⟩ : ByteArray)] : List ByteArray) : List ByteArray)).bind fun y118 => (if 0 ≤ (Int.tmod x2 3) then (if (Int.tmod x2 3) < (y118.length : Int) then (if (x8 ++ (⟨#[47]⟩ : ByteArray)).size + (rdOf ByteArray.empty y118 (Int.tmod x2 3)).size ≤ 9223372036854775807 then (if (x7 ++ (⟨#[47]⟩ : ByteArray)).size + x10.size ≤ 9223372036854775807 then (if ((x8 ++ (⟨#[47]⟩ : ByteArray)) ++ (rdOf ByteArray.empty y118 (Int.tmod x2 3))).size + x10.size ≤ 9223372036854775807 then (laws_FnSameCleaned.l0 k x1 x2 ((x7 ++ (⟨#[47]⟩ : ByteArray)) ++ x10) (((x8 ++ (⟨#[47]⟩ : ByteArray)) ++ (rdOf ByteArray.empty y118 (Int.tmod x2 3))) ++ x10) x32 x33 (wrap64 (x34 + 1))) else (none)) else (none)) else (none)) else (none)) else (none))) else (if (x7 ++ (⟨#[47]⟩ : ByteArray)).size + x10.size ≤ 9223372036854775807 then (if (x8 ++ (⟨#[47]⟩ : ByteArray)).size + x10.size ≤ 9223372036854775807 then (laws_FnSameCleaned.l0 k x1 x2 ((x7 ++ (⟨#[47]⟩ : ByteArray)) ++ x10) ((x8 ++ (⟨#[47]⟩ : ByteArray)) ++ x10) x32 x33 (wrap64 (x34 + 1))) else (none)) else (none))) else (none)) else (none)) else (if x9 = x1 then ((some (([(⟨#[46, 47]⟩ : ByteArray), (⟨#[120, 47, 46, 46, 47]⟩ : ByteArray), (⟨#[46, 47, 121, 47, 46, 47, 46, 46, 47]⟩ : ByteArray)] : List ByteArray) : List ByteArray)).bind fun y122 => (if 0 ≤ (Int.tmod x2 3) then (if (Int.tmod x2 3) < (y122.length : Int) then (if x8.size + (rdOf ByteArray.empty y122 (Int.tmod x2 3)).size ≤ 9223372036854775807 then (if x7.size + x10.size ≤ 9223372036854775807 then (if (x8 ++ (rdOf ByteArray.empty y122 (Int.tmod x2 3))).size + x10.size ≤ 9223372036854775807 then (laws_FnSameCleaned.l0 k x1 x2 (x7 ++ x10) ((x8 ++ (rdOf ByteArray.empty y122 (Int.tmod x2 3))) ++ x10) x32 x33 (wrap64 (x34 + 1))) else (none)) else (none)) else (none)) else (none)) else (none))) else (if x7.size + x10.size ≤ 9223372036854775807 then (if x8.size + x10.size ≤ 9223372036854775807 then (laws_FnSameCleaned.l0 k x1 x2 (x7 ++ x10) (x8 ++ x10) x32 x33 (wrap64 (x34 + 1))) else (none)) else (none))))
end
def laws_FnSameCleaned.f (k : Nat) (l0 : List ByteArray) (a1 : Int) (a2 : Int) : Option (Bool) := (laws_zzFits3.f k l0).bind fun t112 => (if t112 = true then (if (l0.length : Int) < 1 then (laws_FnSameCleaned.j0 k l0 a1 a2 true) else (if (l0.length : Int) > 50 then (laws_FnSameCleaned.j0 k l0 a1 a2 true) else (if a1 < 0 then (laws_FnSameCleaned.j0 k l0 a1 a2 true) else (laws_FnSameCleaned.j0 k l0 a1 a2 (decide (a1 > (l0.length : Int))))))) else (some true))
theorem laws_FnSameCleaned.mono_l : ∀ k, (∀ y0 y1 y2 y3, LeO (laws_FnSameCleaned.j0 k y0 y1 y2 y3) (laws_FnSameCleaned.j0 (k + 1) y0 y1 y2 y3)) ∧ (∀ y0 y1 y2 y3 y4 y5 y6, LeO (laws_FnSameCleaned.l0 k y0 y1 y2 y3 y4 y5 y6) (laws_FnSameCleaned.l0 (k + 1) y0 y1 y2 y3 y4 y5 y6)) ∧ (∀ y0 y1 y2 y3 y4 y5 y6 y7 y8 y9, LeO (laws_FnSameCleaned.j2 k y0 y1 y2 y3 y4 y5 y6 y7 y8 y9) (laws_FnSameCleaned.j2 (k + 1) y0 y1 y2 y3 y4 y5 y6 y7 y8 y9))
  | 0 => ⟨fun _ _ _ _ r h => by simp [laws_FnSameCleaned.j0] at h, fun _ _ _ _ _ _ _ r h => by simp [laws_FnSameCleaned.l0] at h, fun _ _ _ _ _ _ _ _ _ _ r h => by simp [laws_FnSameCleaned.j2] at h⟩
  | k + 1 => by
    obtain ⟨ih0, ih1, ih2⟩ := laws_FnSameCleaned.mono_l k
    refine ⟨?_, ?_, ?_⟩
    · intro y0 y1 y2 y3
      unfold laws_FnSameCleaned.j0
      repeat' first
      | (with_reducible exact ih0 _ _ _ _)
      | (with_reducible exact ih1 _ _ _ _ _ _ _)
      | (with_reducible exact ih2 _ _ _ _ _ _ _ _ _ _)
      | (with_reducible exact impl_SameFilePath.mono _ _ _)
      | (with_reducible exact laws_has.mono _ _ _)
      | (with_reducible exact laws_zzFits3.mono _ _)
      | (with_reducible exact LeO.refl _)
      | (with_reducible exact LeO.none _)
      | (with_reducible refine LeO.ite ?_ ?_)
      | (with_reducible refine LeO.bind ?_ (fun _ => ?_))
      | exact ih0 _ _ _ _
      | exact ih1 _ _ _ _ _ _ _
      | exact ih2 _ _ _ _ _ _ _ _ _ _
      | exact impl_SameFilePath.mono _ _ _
      | exact laws_has.mono _ _ _
      | exact laws_zzFits3.mono _ _
      | exact LeO.none _
      | refine LeO.ite ?_ ?_
      | refine LeO.bind ?_ (fun _ => ?_)
    · intro y0 y1 y2 y3 y4 y5 y6
      unfold laws_FnSameCleaned.l0
      repeat' first
      | (with_reducible exact ih0 _ _ _ _)
      | (with_reducible exact ih1 _ _ _ _ _ _ _)
      | (with_reducible exact ih2 _ _ _ _ _ _ _ _ _ _)
      | (with_reducible exact impl_SameFilePath.mono _ _ _)
      | (with_reducible exact laws_has.mono _ _ _)
      | (with_reducible exact laws_zzFits3.mono _ _)
      | (with_reducible exact LeO.refl _)
      | (with_reducible exact LeO.none _)
      | (with_reducible refine LeO.ite ?_ ?_)
      | (with_reducible refine LeO.bind ?_ (fun _ => ?_))
      | exact ih0 _ _ _ _
      | exact ih1 _ _ _ _ _ _ _
      | exact ih2 _ _ _ _ _ _ _ _ _ _
      | exact impl_SameFilePath.mono _ _ _
      | exact laws_has.mono _ _ _
      | exact laws_zzFits3.mono _ _
      | exact LeO.none _
      | refine LeO.ite ?_ ?_
      | refine LeO.bind ?_ (fun _ => ?_)
    · intro y0 y1 y2 y3 y4 y5 y6 y7 y8 y9
      unfold laws_FnSameCleaned.j2
      repeat' first
      | (with_reducible exact ih0 _ _ _ _)
      | (with_reducible exact ih1 _ _ _ _ _ _ _)
      | (with_reducible exact ih2 _ _ _ _ _ _ _ _ _ _)
      | (with_reducible exact impl_SameFilePath.mono _ _ _)
      | (with_reducible exact laws_has.mono _ _ _)
      | (with_reducible exact laws_zzFits3.mono _ _)
      | (with_reducible exact LeO.refl _)
      | (with_reducible exact LeO.none _)
      | (with_reducible refine LeO.ite ?_ ?_)
      | (with_reducible refine LeO.bind ?_ (fun _ => ?_))
      | exact ih0 _ _ _ _
      | exact ih1 _ _ _ _ _ _ _
      | exact ih2 _ _ _ _ _ _ _ _ _ _
      | exact impl_SameFilePath.mono _ _ _
      | exact laws_has.mono _ _ _
      | exact laws_zzFits3.mono _ _
      | exact LeO.none _
      | refine LeO.ite ?_ ?_
      | refine LeO.bind ?_ (fun _ => ?_)
theorem laws_FnSameCleaned.mono : ∀ a0 a1 a2 k, LeO (laws_FnSameCleaned.f k a0 a1 a2) (laws_FnSameCleaned.f (k + 1) a0 a1 a2) := by
  intro a0 a1 a2 k
  obtain ⟨ih0, ih1, ih2⟩ := laws_FnSameCleaned.mono_l k
  unfold laws_FnSameCleaned.f
  repeat' first
      | (with_reducible exact ih0 _ _ _ _)
      | (with_reducible exact ih1 _ _ _ _ _ _ _)
      | (with_reducible exact ih2 _ _ _ _ _ _ _ _ _ _)
      | (with_reducible exact impl_SameFilePath.mono _ _ _)
      | (with_reducible exact laws_has.mono _ _ _)
      | (with_reducible exact laws_zzFits3.mono _ _)
      | (with_reducible exact LeO.refl _)
      | (with_reducible exact LeO.none _)
      | (with_reducible refine LeO.ite ?_ ?_)
      | (with_reducible refine LeO.bind ?_ (fun _ => ?_))
      | exact ih0 _ _ _ _
      | exact ih1 _ _ _ _ _ _ _
      | exact ih2 _ _ _ _ _ _ _ _ _ _
      | exact impl_SameFilePath.mono _ _ _
      | exact laws_has.mono _ _ _
      | exact laws_zzFits3.mono _ _
      | exact LeO.none _
      | refine LeO.ite ?_ ?_
      | refine LeO.bind ?_ (fun _ => ?_)
set_option maxHeartbeats 8000000 in
set_option maxRecDepth 100000 in
theorem laws_FnSameCleaned.calls (k : Nat) (A0 : Option Addr) (c0 : Nat) (l0 : List ByteArray) (a1 : Int) (a2 : Int) (r : Bool) (w : World) (hr0 : Kd.C Kd.string w A0 l0.length l0) (hc0 : l0.length ≤ c0) (h : laws_FnSameCleaned.f k l0 a1 a2 = some r) :
    Calls Try.prog 5 #[.slice A0 l0.length c0, .int .i64 a1, .int .u8 a2] w fun e w' => e = .returned (.bool r) ∧ Below w.heap.size w w' := by
  have HR0 := Aside0.mk hr0
  have HC0 := Aside0.mk hc0
  clear hr0 hc0
  have HB := Aside0.mk (Below.refl w.heap.size w)
  have H : ((laws_zzFits3.f k l0).bind fun t112 => (if t112 = true then (if (l0.length : Int) < 1 then (laws_FnSameCleaned.j0 k l0 a1 a2 true) else (if (l0.length : Int) > 50 then (laws_FnSameCleaned.j0 k l0 a1 a2 true) else (if a1 < 0 then (laws_FnSameCleaned.j0 k l0 a1 a2 true) else (laws_FnSameCleaned.j0 k l0 a1 a2 (decide (a1 > (l0.length : Int))))))) else (some true))) = some r := h
  clear h
  replace H := Option.bind_eq_some_iff.mp H
  obtain ⟨t112, A40, H⟩ := H
  replace H : (if t112 = true then (if (l0.length : Int) < 1 then (laws_FnSameCleaned.j0 k l0 a1 a2 true) else (if (l0.length : Int) > 50 then (laws_FnSameCleaned.j0 k l0 a1 a2 true) else (if a1 < 0 then (laws_FnSameCleaned.j0 k l0 a1 a2 true) else (laws_FnSameCleaned.j0 k l0 a1 a2 (decide (a1 > (l0.length : Int))))))) else (some true)) = some r := H
  have A4 := Aside0.mk A40
  clear A40
  by_cases c5 : t112 = true
  · subst c5
    have H1 : (if (l0.length : Int) < 1 then (laws_FnSameCleaned.j0 k l0 a1 a2 true) else (if (l0.length : Int) > 50 then (laws_FnSameCleaned.j0 k l0 a1 a2 true) else (if a1 < 0 then (laws_FnSameCleaned.j0 k l0 a1 a2 true) else (laws_FnSameCleaned.j0 k l0 a1 a2 (decide (a1 > (l0.length : Int))))))) = some r := by rw [if_pos rfl] at H; exact H
    clear H
    have H := H1
    clear H1
    have HC6 := Aside0.mk H
    clear H
    go_enter Try.func5, Try.ntmps5
    go_upto_region 3 with (first | ((with_reducible refine gate_callee (f := 27) rfl ?_); refine goesL_ (some 12) rfl rfl Try.func27 (by kernel_rfl) rfl #[.slice A0 l0.length c0] rfl (by (try simp only [List.map_toArray, List.map_cons, List.map_nil]); first | done | rfl | (simp only [List.length_drop, List.length_take]; rfl)) ?_; (with_reducible refine (laws_zzFits3.calls k _ _ l0 true _ ?side1 ?side2 A4.out).mono ?_); (case side1 => repeat (first | exact HR0.out | (with_reducible refine Kd.C_alloc ?_ _) | (with_reducible refine Kd.C_drewN ?_ _) | (with_reducible refine Kd.C_drew ?_))); (case side2 => exact HC0.out); rintro e w' ⟨rfl, ⟨nd, rfl⟩⟩; refine ⟨_, rfl, ?_⟩))
    (try simp only [Act.put, List.setIfInBounds_toArray, List.set_cons_zero, List.set_cons_succ])
    go_cut [31] (fun v31 wc => ∃ (kq : Nat) (x31_5 : Bool), v31 = .bool x31_5 ∧ Aside0 (laws_FnSameCleaned.j0 kq l0 a1 a2 x31_5 = some r) ∧ Aside0 (kq ≤ k) ∧ Aside0 (Below w.heap.size w wc))
    case first =>
      have H := HC6.out
      clear HC6
      by_cases c7 : (l0.length : Int) < 1
      · rw [if_pos c7] at H
        have c7b0 : decide ((l0.length : Int) < 1) = true := decide_eq_true c7
        have c7b1 : decide (l0.length < 1) = true := decide_eq_true (by omega)
        clear c7
        (first | rw [c7b0] | (simp only [i64_w, i32_w]; rw [c7b0]) | skip)
        have H' := Aside0.mk H
        clear H
        go_wp2
        go_meet
        case rel => exact ⟨_, (true), (by first | rfl | (simp; done) | (simp [*]; done)), H', ⟨by first | omega | exact Nat.le_refl _⟩, ⟨by repeat (first | (with_reducible first | exact HB.out | apply below_alloc | apply pw_below_drewN | apply below_drew1) | exact HB.out)⟩⟩
      · rw [if_neg c7] at H
        have c7b0 : decide ((l0.length : Int) < 1) = false := decide_eq_false c7
        have c7b1 : decide (l0.length < 1) = false := decide_eq_false (by omega)
        clear c7
        (first | rw [c7b0] | (simp only [i64_w, i32_w]; rw [c7b0]) | skip)
        by_cases c8 : (l0.length : Int) > 50
        · rw [if_pos c8] at H
          have c8b0 : decide (50 < (l0.length : Int)) = true := decide_eq_true c8
          have c8b1 : decide (50 < l0.length) = true := decide_eq_true (by omega)
          clear c8
          have H' := Aside0.mk H
          clear H
          go_wp2
          go_meet
          case rel => exact ⟨_, (true), (by first | rfl | (simp; done) | (simp [*]; done)), H', ⟨by first | omega | exact Nat.le_refl _⟩, ⟨by repeat (first | (with_reducible first | exact HB.out | apply below_alloc | apply pw_below_drewN | apply below_drew1) | exact HB.out)⟩⟩
        · rw [if_neg c8] at H
          have c8b0 : decide (50 < (l0.length : Int)) = false := decide_eq_false c8
          have c8b1 : decide (50 < l0.length) = false := decide_eq_false (by omega)
          clear c8
          by_cases c9 : a1 < 0
          · rw [if_pos c9] at H
            have c9b0 : decide (a1 < 0) = true := decide_eq_true c9
            clear c9
            have H' := Aside0.mk H
            clear H
            go_wp2
            go_meet
            case rel => exact ⟨_, (true), (by first | rfl | (simp; done) | (simp [*]; done)), H', ⟨by first | omega | exact Nat.le_refl _⟩, ⟨by repeat (first | (with_reducible first | exact HB.out | apply below_alloc | apply pw_below_drewN | apply below_drew1) | exact HB.out)⟩⟩
          · rw [if_neg c9] at H
            have c9b0 : decide (a1 < 0) = false := decide_eq_false c9
            clear c9
            have H' := Aside0.mk H
            clear H
            go_wp2
            go_meet
            case rel => exact ⟨_, (decide (a1 > (l0.length : Int))), (by first | rfl | (simp; done) | (simp [*]; done)), H', ⟨by first | omega | exact Nat.le_refl _⟩, ⟨by repeat (first | (with_reducible first | exact HB.out | apply below_alloc | apply pw_below_drewN | apply below_drew1) | exact HB.out)⟩⟩
    case rest =>
      clear HC6
      try clear c2
      try clear p2
      try clear c5
      try clear c7
      try clear c7b0
      try clear c7b1
      try clear c8
      try clear c8b0
      try clear c8b1
      try clear c9
      try clear c9b0
      obtain ⟨kq, x31_5, rfl, HA, HJ5, HB⟩ := hcut
      cases kq with
      | zero => exact absurd HA.out (by simp [laws_FnSameCleaned.j0])
      | succ kj5 =>
        have H := HA.out
        clear HA
        simp only [laws_FnSameCleaned.j0] at H
        by_cases c10 : x31_5 = true
        · subst c10
          have H1 : (some true) = some r := by rw [if_pos rfl] at H; exact H
          clear H
          have H := H1
          clear H1
          obtain rfl := Option.some.inj H
          go_wp2
          go_ret
          exact ⟨by first | rfl | (simp [errW_none, errW_some] <;> rfl) | (simp [*, errW_none, errW_some] <;> rfl), by repeat (first | (with_reducible first | exact HB.out | apply below_alloc | apply pw_below_drewN | apply below_drew1) | exact HB.out)⟩
        · replace c10 := Bool.eq_false_iff.mpr c10
          subst c10
          have H1 : (laws_FnSameCleaned.l0 kj5 a1 a2 (⟨#[]⟩ : ByteArray) (⟨#[]⟩ : ByteArray) l0 (l0.length : Int) 0) = some r := by rw [if_neg (show ¬ (false = true) by decide)] at H; exact H
          clear H
          have H := H1
          clear H1
          have H' := Aside0.mk H
          clear H
          go_wp2
          try simp only [Act.put, List.setIfInBounds_toArray, List.set_cons_succ, List.set_cons_zero]
          go_loopg [7, 8, 34] kj5 (fun kq v7 v8 v34 w' => ∃ (x7_2 : ByteArray) (x8_2 : ByteArray) (x34_2 : Int), v7 = .string x7_2 ∧ v8 = .string x8_2 ∧ v34 = .int .i64 x34_2 ∧ Aside0 (laws_FnSameCleaned.l0 kq a1 a2 x7_2 x8_2 l0 (l0.length : Int) x34_2 = some r) ∧ Aside0 (kq ≤ kj5) ∧ Aside0 (Below w.heap.size w w'))
          case atStart => exact ⟨((⟨#[]⟩ : ByteArray)), ((⟨#[]⟩ : ByteArray)), (0), (by first | rfl | (simp; done) | (simp [*]; done)), (by first | rfl | (simp; done) | (simp [*]; done)), (by first | rfl | (simp; done) | (simp [*]; done)), H', ⟨Nat.le_refl _⟩, ⟨by repeat (first | (with_reducible first | exact HB.out | apply below_alloc | apply pw_below_drewN | apply below_drew1) | exact HB.out)⟩⟩
          case round =>
            clear H'
            try clear c1
            try clear c2
            try clear p2
            try clear c5
            try clear c7
            try clear c7b0
            try clear c7b1
            try clear c8
            try clear c8b0
            try clear c8b1
            try clear c9
            try clear c9b0
            try clear c10
            try clear p2
            obtain ⟨x7_2, x8_2, x34_2, rfl, rfl, rfl, HA, HK2, HB⟩ := hrel
            cases gk with
            | zero => exact absurd HA.out (by simp [laws_FnSameCleaned.l0])
            | succ k2 =>
              have H := HA.out
              clear HA
              simp only [laws_FnSameCleaned.l0] at H
              by_cases c11 : x34_2 < (l0.length : Int)
              · rw [if_pos c11] at H
                have c11b0 : decide (x34_2 < (l0.length : Int)) = true := decide_eq_true c11
                clear c11
                by_cases c12 : 0 ≤ x34_2
                · rw [if_pos c12] at H
                  have c12b0 : decide (0 ≤ x34_2) = true := decide_eq_true c12
                  clear c12
                  by_cases c13 : x34_2 < (l0.length : Int)
                  · rw [if_pos c13] at H
                    have c13b0 : decide (x34_2 < (l0.length : Int)) = true := decide_eq_true c13
                    clear c13
                    have HC14 := Aside0.mk H
                    clear H
                    have p116 : 0 ≤ (x34_2 : Int) := of_decide_eq_true (by first | (with_reducible assumption) | assumption)
                    have q116 : x34_2 < (l0.length : Int) := of_decide_eq_true (by first | (with_reducible assumption) | assumption)
                    obtain ⟨ad116, e116, hx116_0⟩ := Kd.at_string HR0.out x34_2 p116 q116
                    cases e116
                    replace hx116_0 := (HB.out.cell (World.block_lt_of_cell? w _ hx116_0)).trans hx116_0
                    replace p116 := eq_true p116
                    replace q116 := eq_true q116
                    go_upto_region 9 with (fail)
                    go_cut [57] (fun v57 wc => ∃ (kq : Nat) (x57_13 : Bool), v57 = .bool x57_13 ∧ Aside0 (laws_FnSameCleaned.j2 kq a1 a2 x7_2 x8_2 x34_2 (rdOf ByteArray.empty l0 x34_2) l0 (l0.length : Int) x34_2 x57_13 = some r) ∧ Aside0 (kq ≤ k2) ∧ Aside0 (Below w.heap.size w wc))
                    case first =>
                      have H := HC14.out
                      clear HC14
                      by_cases c15 : (rdOf ByteArray.empty l0 x34_2).toList = ([] : List UInt8)
                      · rw [if_pos c15] at H
                        have c15b0 : ((rdOf ByteArray.empty l0 x34_2).toList == ([] : List UInt8)) = true := beq_iff_eq.mpr c15
                        have c15b1 : ((rdOf ByteArray.empty l0 x34_2).toList != ([] : List UInt8)) = false := bne_eq_false_iff_eq.mpr c15
                        clear c15
                        (first | rw [c15b0] | (simp only [i64_w, i32_w]; rw [c15b0]) | skip)
                        have H' := Aside0.mk H
                        clear H
                        go_wp2
                        go_meet
                        case rel => exact ⟨_, (true), (by first | rfl | (simp; done) | (simp [*]; done)), H', ⟨by have := HJ5.out; have := HK2.out; first | omega | exact Nat.le_refl _⟩, ⟨by repeat (first | (with_reducible first | exact HB.out | apply below_alloc | apply pw_below_drewN | apply below_drew1) | exact HB.out)⟩⟩
                      · rw [if_neg c15] at H
                        have c15b0 : ((rdOf ByteArray.empty l0 x34_2).toList == ([] : List UInt8)) = false := beq_eq_false_iff_ne.mpr c15
                        have c15b1 : ((rdOf ByteArray.empty l0 x34_2).toList != ([] : List UInt8)) = true := bne_iff_ne.mpr c15
                        (first | rw [c15b0] | (simp only [i64_w, i32_w]; rw [c15b0]) | skip)
                        by_cases c16 : (rdOf ByteArray.empty l0 x34_2).toList = ([46] : List UInt8)
                        · rw [if_pos c16] at H
                          have c16b0 : ((rdOf ByteArray.empty l0 x34_2).toList == ([46] : List UInt8)) = true := beq_iff_eq.mpr c16
                          have c16b1 : ((rdOf ByteArray.empty l0 x34_2).toList != ([46] : List UInt8)) = false := bne_eq_false_iff_eq.mpr c16
                          clear c16
                          have H' := Aside0.mk H
                          clear H
                          go_wp2
                          go_meet
                          case rel => exact ⟨_, (true), (by first | rfl | (simp; done) | (simp [*]; done)), H', ⟨by have := HJ5.out; have := HK2.out; first | omega | exact Nat.le_refl _⟩, ⟨by repeat (first | (with_reducible first | exact HB.out | apply below_alloc | apply pw_below_drewN | apply below_drew1) | exact HB.out)⟩⟩
                        · rw [if_neg c16] at H
                          have c16b0 : ((rdOf ByteArray.empty l0 x34_2).toList == ([46] : List UInt8)) = false := beq_eq_false_iff_ne.mpr c16
                          have c16b1 : ((rdOf ByteArray.empty l0 x34_2).toList != ([46] : List UInt8)) = true := bne_iff_ne.mpr c16
                          by_cases c17 : (rdOf ByteArray.empty l0 x34_2).toList = ([46, 46] : List UInt8)
                          · rw [if_pos c17] at H
                            have c17b0 : ((rdOf ByteArray.empty l0 x34_2).toList == ([46, 46] : List UInt8)) = true := beq_iff_eq.mpr c17
                            have c17b1 : ((rdOf ByteArray.empty l0 x34_2).toList != ([46, 46] : List UInt8)) = false := bne_eq_false_iff_eq.mpr c17
                            clear c17
                            have H' := Aside0.mk H
                            clear H
                            go_wp2
                            go_meet
                            case rel => exact ⟨_, (true), (by first | rfl | (simp; done) | (simp [*]; done)), H', ⟨by have := HJ5.out; have := HK2.out; first | omega | exact Nat.le_refl _⟩, ⟨by repeat (first | (with_reducible first | exact HB.out | apply below_alloc | apply pw_below_drewN | apply below_drew1) | exact HB.out)⟩⟩
                          · rw [if_neg c17] at H
                            have c17b0 : ((rdOf ByteArray.empty l0 x34_2).toList == ([46, 46] : List UInt8)) = false := beq_eq_false_iff_ne.mpr c17
                            have c17b1 : ((rdOf ByteArray.empty l0 x34_2).toList != ([46, 46] : List UInt8)) = true := bne_iff_ne.mpr c17
                            replace H := Option.bind_eq_some_iff.mp H
                            obtain ⟨t117, A180, H⟩ := H
                            replace H : (if t117 = true then (laws_FnSameCleaned.j2 k2 a1 a2 x7_2 x8_2 x34_2 (rdOf ByteArray.empty l0 x34_2) l0 (l0.length : Int) x34_2 true) else (laws_FnSameCleaned.j2 k2 a1 a2 x7_2 x8_2 x34_2 (rdOf ByteArray.empty l0 x34_2) l0 (l0.length : Int) x34_2 (decide (((rdOf ByteArray.empty l0 x34_2).size : Int) > 1000)))) = some r := H
                            have A18 := Aside0.mk A180
                            clear A180
                            by_cases c19 : t117 = true
                            · subst c19
                              have H1 : (laws_FnSameCleaned.j2 k2 a1 a2 x7_2 x8_2 x34_2 (rdOf ByteArray.empty l0 x34_2) l0 (l0.length : Int) x34_2 true) = some r := by rw [if_pos rfl] at H; exact H
                              clear H
                              have H := H1
                              clear H1
                              have H' := Aside0.mk H
                              clear H
                              go_wp2_with (first | (go_at_call 28; (with_reducible refine (laws_has.calls k2 (rdOf ByteArray.empty l0 x34_2) (⟨#[47]⟩ : ByteArray) true _ A18.out).mono ?_); rintro e w' ⟨rfl, ⟨nd, rfl⟩⟩))
                              go_meet
                              case rel => exact ⟨_, (true), (by first | rfl | (simp; done) | (simp [*]; done)), H', ⟨by have := HJ5.out; have := HK2.out; first | omega | exact Nat.le_refl _⟩, ⟨by repeat (first | (with_reducible first | exact HB.out | apply below_alloc | apply pw_below_drewN | apply below_drew1) | exact HB.out)⟩⟩
                            · replace c19 := Bool.eq_false_iff.mpr c19
                              subst c19
                              have H1 : (laws_FnSameCleaned.j2 k2 a1 a2 x7_2 x8_2 x34_2 (rdOf ByteArray.empty l0 x34_2) l0 (l0.length : Int) x34_2 (decide (((rdOf ByteArray.empty l0 x34_2).size : Int) > 1000))) = some r := by rw [if_neg (show ¬ (false = true) by decide)] at H; exact H
                              clear H
                              have H := H1
                              clear H1
                              have H' := Aside0.mk H
                              clear H
                              go_wp2_with (first | (go_at_call 28; (with_reducible refine (laws_has.calls k2 (rdOf ByteArray.empty l0 x34_2) (⟨#[47]⟩ : ByteArray) false _ A18.out).mono ?_); rintro e w' ⟨rfl, ⟨nd, rfl⟩⟩))
                              go_meet
                              case rel => exact ⟨_, (decide (((rdOf ByteArray.empty l0 x34_2).size : Int) > 1000)), (by first | rfl | (simp; done) | (simp [*]; done)), H', ⟨by have := HJ5.out; have := HK2.out; first | omega | exact Nat.le_refl _⟩, ⟨by repeat (first | (with_reducible first | exact HB.out | apply below_alloc | apply pw_below_drewN | apply below_drew1) | exact HB.out)⟩⟩
                    case rest =>
                      clear HC14
                      try clear c1
                      try clear p1
                      try clear q1
                      try clear hx1
                      try clear c2
                      try clear p2
                      try clear c5
                      try clear c7
                      try clear c7b0
                      try clear c7b1
                      try clear c8
                      try clear c8b0
                      try clear c8b1
                      try clear c9
                      try clear c9b0
                      try clear c10
                      try clear c11
                      try clear c11b0
                      try clear p11
                      try clear q11
                      try clear hx11
                      try clear c12
                      try clear c12b0
                      try clear c13
                      try clear c13b0
                      try clear c15
                      try clear c15b0
                      try clear c15b1
                      try clear c16
                      try clear c16b0
                      try clear c16b1
                      try clear c17
                      try clear c17b0
                      try clear c17b1
                      try clear c19
                      try clear hx116_0
                      try clear p116
                      try clear p2
                      try clear q116
                      obtain ⟨kq, x57_13, rfl, HA, HJ13, HB⟩ := hcut
                      cases kq with
                      | zero => exact absurd HA.out (by simp [laws_FnSameCleaned.j2])
                      | succ kj13 =>
                        have H := HA.out
                        clear HA
                        simp only [laws_FnSameCleaned.j2] at H
                        by_cases c20 : x57_13 = true
                        · subst c20
                          have H1 : (some true) = some r := by rw [if_pos rfl] at H; exact H
                          clear H
                          have H := H1
                          clear H1
                          obtain rfl := Option.some.inj H
                          go_wp2
                          go_ret
                          exact ⟨by first | rfl | (simp [errW_none, errW_some] <;> rfl) | (simp [*, errW_none, errW_some] <;> rfl), by repeat (first | (with_reducible first | exact HB.out | apply below_alloc | apply pw_below_drewN | apply below_drew1) | exact HB.out)⟩
                        · replace c20 := Bool.eq_false_iff.mpr c20
                          subst c20
                          have H1 : (if x34_2 > 0 then (if x7_2.size + 1 ≤ 9223372036854775807 then (if x8_2.size + 1 ≤ 9223372036854775807 then (if x34_2 = a1 then ((some (([(⟨#[46, 47]⟩ : ByteArray), (⟨#[120, 47, 46, 46, 47]⟩ : ByteArray), (⟨#[46, 47, 121, 47, 46, 47, 46, 46, 47]⟩ : ByteArray)] : List ByteArray) : List ByteArray)).bind fun y118 => (if 0 ≤ (Int.tmod a2 3) then (if (Int.tmod a2 3) < (y118.length : Int) then (if (x8_2 ++ (⟨#[47]⟩ : ByteArray)).size + (rdOf ByteArray.empty y118 (Int.tmod a2 3)).size ≤ 9223372036854775807 then (if (x7_2 ++ (⟨#[47]⟩ : ByteArray)).size + (rdOf ByteArray.empty l0 x34_2).size ≤ 9223372036854775807 then (if ((x8_2 ++ (⟨#[47]⟩ : ByteArray)) ++ (rdOf ByteArray.empty y118 (Int.tmod a2 3))).size + (rdOf ByteArray.empty l0 x34_2).size ≤ 9223372036854775807 then (laws_FnSameCleaned.l0 kj13 a1 a2 ((x7_2 ++ (⟨#[47]⟩ : ByteArray)) ++ (rdOf ByteArray.empty l0 x34_2)) (((x8_2 ++ (⟨#[47]⟩ : ByteArray)) ++ (rdOf ByteArray.empty y118 (Int.tmod a2 3))) ++ (rdOf ByteArray.empty l0 x34_2)) l0 (l0.length : Int) (wrap64 (x34_2 + 1))) else (none)) else (none)) else (none)) else (none)) else (none))) else (if (x7_2 ++ (⟨#[47]⟩ : ByteArray)).size + (rdOf ByteArray.empty l0 x34_2).size ≤ 9223372036854775807 then (if (x8_2 ++ (⟨#[47]⟩ : ByteArray)).size + (rdOf ByteArray.empty l0 x34_2).size ≤ 9223372036854775807 then (laws_FnSameCleaned.l0 kj13 a1 a2 ((x7_2 ++ (⟨#[47]⟩ : ByteArray)) ++ (rdOf ByteArray.empty l0 x34_2)) ((x8_2 ++ (⟨#[47]⟩ : ByteArray)) ++ (rdOf ByteArray.empty l0 x34_2)) l0 (l0.length : Int) (wrap64 (x34_2 + 1))) else (none)) else (none))) else (none)) else (none)) else (if x34_2 = a1 then ((some (([(⟨#[46, 47]⟩ : ByteArray), (⟨#[120, 47, 46, 46, 47]⟩ : ByteArray), (⟨#[46, 47, 121, 47, 46, 47, 46, 46, 47]⟩ : ByteArray)] : List ByteArray) : List ByteArray)).bind fun y122 => (if 0 ≤ (Int.tmod a2 3) then (if (Int.tmod a2 3) < (y122.length : Int) then (if x8_2.size + (rdOf ByteArray.empty y122 (Int.tmod a2 3)).size ≤ 9223372036854775807 then (if x7_2.size + (rdOf ByteArray.empty l0 x34_2).size ≤ 9223372036854775807 then (if (x8_2 ++ (rdOf ByteArray.empty y122 (Int.tmod a2 3))).size + (rdOf ByteArray.empty l0 x34_2).size ≤ 9223372036854775807 then (laws_FnSameCleaned.l0 kj13 a1 a2 (x7_2 ++ (rdOf ByteArray.empty l0 x34_2)) ((x8_2 ++ (rdOf ByteArray.empty y122 (Int.tmod a2 3))) ++ (rdOf ByteArray.empty l0 x34_2)) l0 (l0.length : Int) (wrap64 (x34_2 + 1))) else (none)) else (none)) else (none)) else (none)) else (none))) else (if x7_2.size + (rdOf ByteArray.empty l0 x34_2).size ≤ 9223372036854775807 then (if x8_2.size + (rdOf ByteArray.empty l0 x34_2).size ≤ 9223372036854775807 then (laws_FnSameCleaned.l0 kj13 a1 a2 (x7_2 ++ (rdOf ByteArray.empty l0 x34_2)) (x8_2 ++ (rdOf ByteArray.empty l0 x34_2)) l0 (l0.length : Int) (wrap64 (x34_2 + 1))) else (none)) else (none)))) = some r := by rw [if_neg (show ¬ (false = true) by decide)] at H; exact H
                          clear H
                          have H := H1
                          clear H1
                          by_cases c21 : x34_2 > 0
                          · rw [if_pos c21] at H
                            have c21b0 : decide (0 < x34_2) = true := decide_eq_true c21
                            clear c21
                            by_cases c22 : x7_2.size + 1 ≤ 9223372036854775807
                            · rw [if_pos c22] at H
                              have c22b0 := eq_true c22
                              have c22b1 : decide (x7_2.size + 1 ≤ 9223372036854775807) = true := decide_eq_true c22
                              try have c22b2 : (9223372036854775807 < x7_2.size + 1) = False := eq_false (Nat.not_lt.2 c22)
                              by_cases c23 : x8_2.size + 1 ≤ 9223372036854775807
                              · rw [if_pos c23] at H
                                have c23b0 := eq_true c23
                                have c23b1 : decide (x8_2.size + 1 ≤ 9223372036854775807) = true := decide_eq_true c23
                                try have c23b2 : (9223372036854775807 < x8_2.size + 1) = False := eq_false (Nat.not_lt.2 c23)
                                by_cases c24 : x34_2 = a1
                                · rw [if_pos c24] at H
                                  have c24b0 : (x34_2 == a1) = true := beq_iff_eq.mpr c24
                                  have c24b1 : (x34_2 != a1) = false := bne_eq_false_iff_eq.mpr c24
                                  clear c24
                                  obtain ⟨y118, hy118⟩ : ∃ y_ : List ByteArray, y_ = (([(⟨#[46, 47]⟩ : ByteArray), (⟨#[120, 47, 46, 46, 47]⟩ : ByteArray), (⟨#[46, 47, 121, 47, 46, 47, 46, 46, 47]⟩ : ByteArray)] : List ByteArray)) := ⟨_, rfl⟩
                                  replace H : (if 0 ≤ (Int.tmod a2 3) then (if (Int.tmod a2 3) < (y118.length : Int) then (if (x8_2 ++ (⟨#[47]⟩ : ByteArray)).size + (rdOf ByteArray.empty y118 (Int.tmod a2 3)).size ≤ 9223372036854775807 then (if (x7_2 ++ (⟨#[47]⟩ : ByteArray)).size + (rdOf ByteArray.empty l0 x34_2).size ≤ 9223372036854775807 then (if ((x8_2 ++ (⟨#[47]⟩ : ByteArray)) ++ (rdOf ByteArray.empty y118 (Int.tmod a2 3))).size + (rdOf ByteArray.empty l0 x34_2).size ≤ 9223372036854775807 then (laws_FnSameCleaned.l0 kj13 a1 a2 ((x7_2 ++ (⟨#[47]⟩ : ByteArray)) ++ (rdOf ByteArray.empty l0 x34_2)) (((x8_2 ++ (⟨#[47]⟩ : ByteArray)) ++ (rdOf ByteArray.empty y118 (Int.tmod a2 3))) ++ (rdOf ByteArray.empty l0 x34_2)) l0 (l0.length : Int) (wrap64 (x34_2 + 1))) else (none)) else (none)) else (none)) else (none)) else (none)) = some r := by first | (rw [hy118]; with_reducible exact H) | (have H2_ := (Option.bind_some _ _).symm.trans H; rw [hy118]; with_reducible exact H2_) | (have H2_ := (Option.bind_some _ _).symm.trans H; with_reducible exact H2_) | with_reducible exact H | (rw [hy118]; exact H) | exact H
                                  have Ny118 := Aside0.mk hy118
                                  clear hy118
                                  obtain ⟨ji25, hji25⟩ : ∃ j_ : Int, (Int.tmod a2 3) = j_ := ⟨_, rfl⟩
                                  replace H : (if 0 ≤ (ji25) then (if (ji25) < (y118.length : Int) then (if (x8_2 ++ (⟨#[47]⟩ : ByteArray)).size + (rdOf ByteArray.empty y118 (ji25)).size ≤ 9223372036854775807 then (if (x7_2 ++ (⟨#[47]⟩ : ByteArray)).size + (rdOf ByteArray.empty l0 x34_2).size ≤ 9223372036854775807 then (if ((x8_2 ++ (⟨#[47]⟩ : ByteArray)) ++ (rdOf ByteArray.empty y118 (ji25))).size + (rdOf ByteArray.empty l0 x34_2).size ≤ 9223372036854775807 then (laws_FnSameCleaned.l0 kj13 a1 a2 ((x7_2 ++ (⟨#[47]⟩ : ByteArray)) ++ (rdOf ByteArray.empty l0 x34_2)) (((x8_2 ++ (⟨#[47]⟩ : ByteArray)) ++ (rdOf ByteArray.empty y118 (ji25))) ++ (rdOf ByteArray.empty l0 x34_2)) l0 (l0.length : Int) (wrap64 (x34_2 + 1))) else (none)) else (none)) else (none)) else (none)) else (none)) = some r := by first | (rw [hji25] at H; exact H) | (simp only [hji25] at H ⊢; exact H)
                                  by_cases c26 : 0 ≤ (ji25)
                                  · rw [if_pos c26] at H
                                    have c26b0 : decide (0 ≤ (ji25)) = true := decide_eq_true c26
                                    clear c26
                                    by_cases c27 : (ji25) < (y118.length : Int)
                                    · rw [if_pos c27] at H
                                      have c27b0 : decide ((ji25) < (y118.length : Int)) = true := decide_eq_true c27
                                      clear c27
                                      by_cases c28 : (x8_2 ++ (⟨#[47]⟩ : ByteArray)).size + (rdOf ByteArray.empty y118 (ji25)).size ≤ 9223372036854775807
                                      · rw [if_pos c28] at H
                                        have c28b0 := eq_true c28
                                        have c28b1 : decide ((x8_2 ++ (⟨#[47]⟩ : ByteArray)).size + (rdOf ByteArray.empty y118 (ji25)).size ≤ 9223372036854775807) = true := decide_eq_true c28
                                        try have c28b2 : (9223372036854775807 < (x8_2 ++ (⟨#[47]⟩ : ByteArray)).size + (rdOf ByteArray.empty y118 (ji25)).size) = False := eq_false (Nat.not_lt.2 c28)
                                        try (have c28n := c28; simp only [ByteArray.size_append, ByteArray.size, List.size_toArray, List.length_cons, List.length_nil, Nat.zero_add, Nat.reduceAdd] at c28n; simp at c28n; have c28n0 := eq_true c28n; have c28n1 := eq_false (Nat.not_lt.2 c28n); have c28n2 := decide_eq_true c28n)
                                        by_cases c29 : (x7_2 ++ (⟨#[47]⟩ : ByteArray)).size + (rdOf ByteArray.empty l0 x34_2).size ≤ 9223372036854775807
                                        · rw [if_pos c29] at H
                                          have c29b0 := eq_true c29
                                          have c29b1 : decide ((x7_2 ++ (⟨#[47]⟩ : ByteArray)).size + (rdOf ByteArray.empty l0 x34_2).size ≤ 9223372036854775807) = true := decide_eq_true c29
                                          try have c29b2 : (9223372036854775807 < (x7_2 ++ (⟨#[47]⟩ : ByteArray)).size + (rdOf ByteArray.empty l0 x34_2).size) = False := eq_false (Nat.not_lt.2 c29)
                                          try (have c29n := c29; simp only [ByteArray.size_append, ByteArray.size, List.size_toArray, List.length_cons, List.length_nil, Nat.zero_add, Nat.reduceAdd] at c29n; simp at c29n; have c29n0 := eq_true c29n; have c29n1 := eq_false (Nat.not_lt.2 c29n); have c29n2 := decide_eq_true c29n)
                                          by_cases c30 : ((x8_2 ++ (⟨#[47]⟩ : ByteArray)) ++ (rdOf ByteArray.empty y118 (ji25))).size + (rdOf ByteArray.empty l0 x34_2).size ≤ 9223372036854775807
                                          · rw [if_pos c30] at H
                                            have c30b0 := eq_true c30
                                            have c30b1 : decide (((x8_2 ++ (⟨#[47]⟩ : ByteArray)) ++ (rdOf ByteArray.empty y118 (ji25))).size + (rdOf ByteArray.empty l0 x34_2).size ≤ 9223372036854775807) = true := decide_eq_true c30
                                            try have c30b2 : (9223372036854775807 < ((x8_2 ++ (⟨#[47]⟩ : ByteArray)) ++ (rdOf ByteArray.empty y118 (ji25))).size + (rdOf ByteArray.empty l0 x34_2).size) = False := eq_false (Nat.not_lt.2 c30)
                                            try (have c30n := c30; simp only [ByteArray.size_append, ByteArray.size, List.size_toArray, List.length_cons, List.length_nil, Nat.zero_add, Nat.reduceAdd] at c30n; simp at c30n; have c30n0 := eq_true c30n; have c30n1 := eq_false (Nat.not_lt.2 c30n); have c30n2 := decide_eq_true c30n)
                                            have H' := Aside0.mk H
                                            clear H
                                            go_wp2_with (first | ((with_reducible refine gate_dst (N := 68) rfl ?_); (try (refine gate_guard (by rfl) ?_; dsimp only)); refine Kd.R_lit Kd.string _ 9 ?hg (N := 68) ?hd (xs := ([(⟨#[46, 47]⟩ : ByteArray), (⟨#[120, 47, 46, 46, 47]⟩ : ByteArray), (⟨#[46, 47, 121, 47, 46, 47, 46, 46, 47]⟩ : ByteArray)] : List ByteArray)) (inner := [.string (⟨#[46, 47]⟩ : ByteArray), .string (⟨#[120, 47, 46, 46, 47]⟩ : ByteArray), .string (⟨#[46, 47, 121, 47, 46, 47, 46, 46, 47]⟩ : ByteArray)]) (ok := fun _ => True) (okp := fun _ => True) ?hr ?hp (fun _ hk => hk) trivial (Below.refl _ _) (Nat.le_refl _) (by simp) ?_; (case hd => rfl); (case hg => rfl); (case hr => first | (go_simp; done) | (go_simp; rfl)); (case hp => exact (Reps.one (show Kd.M Kd.string _ _ _ (⟨#[46, 47]⟩ : ByteArray) [.string (⟨#[46, 47]⟩ : ByteArray)] from rfl) (Reps.one (show Kd.M Kd.string _ _ _ (⟨#[120, 47, 46, 46, 47]⟩ : ByteArray) [.string (⟨#[120, 47, 46, 46, 47]⟩ : ByteArray)] from rfl) (Reps.one (show Kd.M Kd.string _ _ _ (⟨#[46, 47, 121, 47, 46, 47, 46, 46, 47]⟩ : ByteArray) [.string (⟨#[46, 47, 121, 47, 46, 47, 46, 46, 47]⟩ : ByteArray)] from rfl) (Reps.none _ _))))); intro v119 w31 ho32 hb hg_ hnew_; clear hg_ hnew_; (first | rw [← Ny118.out] at ho32 | (simp only [Int.reduceToNat] at ho32; rw [← Ny118.out] at ho32)); have n0_ := Aside0.mk (Kd.R_lower ho32 (below_size (by repeat (first | (with_reducible first | exact HB.out | apply below_alloc | apply pw_below_drewN | apply below_drew1) | exact HB.out)))); have n1_ := Aside0.mk (below_step (by repeat (first | (with_reducible first | exact HB.out | apply below_alloc | apply pw_below_drewN | apply below_drew1) | exact HB.out)) hb); clear HB; have HO120 := n0_; have HB := n1_; clear n0_ n1_; clear hb ho32; obtain ⟨Ao33, co33, eo33⟩ := Kd.R_slice HO120.out; subst eo33; have p121 : 0 ≤ ((ji25) : Int) := of_decide_eq_true (by first | (with_reducible assumption) | assumption); have q121 : (ji25) < (y118.length : Int) := of_decide_eq_true (by first | (with_reducible assumption) | assumption); obtain ⟨ad121, e121, hx121_0⟩ := Kd.at_string (Kd.R_reads' HO120.out).2.2 (ji25) p121 q121; cases e121; replace p121 := eq_true p121; replace q121 := eq_true q121))
                                            go_roundg kj13
                                            case measure => have := HJ5.out; have := HK2.out; have := HJ13.out; omega
                                            case rel => exact ⟨((x7_2 ++ (⟨#[47]⟩ : ByteArray)) ++ (rdOf ByteArray.empty l0 x34_2)), (((x8_2 ++ (⟨#[47]⟩ : ByteArray)) ++ (rdOf ByteArray.empty y118 (ji25))) ++ (rdOf ByteArray.empty l0 x34_2)), (wrap64 (x34_2 + 1)), (by first | rfl | (simp; done) | (simp [*]; done)), (by first | rfl | (simp; done) | (simp only [← hji25] <;> (first | rfl | simp)) | (simp [*]; done)), (by first | rfl | (simp; done) | (simp [*]; done)), H', ⟨by have := HJ5.out; have := HK2.out; have := HJ13.out; omega⟩, ⟨by repeat (first | (with_reducible first | exact HB.out | apply below_alloc | apply pw_below_drewN | apply below_drew1) | exact HB.out)⟩⟩
                                          · rw [if_neg c30] at H
                                            exact absurd H (by simp)
                                        · rw [if_neg c29] at H
                                          exact absurd H (by simp)
                                      · rw [if_neg c28] at H
                                        exact absurd H (by simp)
                                    · rw [if_neg c27] at H
                                      exact absurd H (by simp)
                                  · rw [if_neg c26] at H
                                    exact absurd H (by simp)
                                · rw [if_neg c24] at H
                                  have c24b0 : (x34_2 == a1) = false := beq_eq_false_iff_ne.mpr c24
                                  have c24b1 : (x34_2 != a1) = true := bne_iff_ne.mpr c24
                                  by_cases c34 : (x7_2 ++ (⟨#[47]⟩ : ByteArray)).size + (rdOf ByteArray.empty l0 x34_2).size ≤ 9223372036854775807
                                  · rw [if_pos c34] at H
                                    have c34b0 := eq_true c34
                                    have c34b1 : decide ((x7_2 ++ (⟨#[47]⟩ : ByteArray)).size + (rdOf ByteArray.empty l0 x34_2).size ≤ 9223372036854775807) = true := decide_eq_true c34
                                    try have c34b2 : (9223372036854775807 < (x7_2 ++ (⟨#[47]⟩ : ByteArray)).size + (rdOf ByteArray.empty l0 x34_2).size) = False := eq_false (Nat.not_lt.2 c34)
                                    try (have c34n := c34; simp only [ByteArray.size_append, ByteArray.size, List.size_toArray, List.length_cons, List.length_nil, Nat.zero_add, Nat.reduceAdd] at c34n; simp at c34n; have c34n0 := eq_true c34n; have c34n1 := eq_false (Nat.not_lt.2 c34n); have c34n2 := decide_eq_true c34n)
                                    by_cases c35 : (x8_2 ++ (⟨#[47]⟩ : ByteArray)).size + (rdOf ByteArray.empty l0 x34_2).size ≤ 9223372036854775807
                                    · rw [if_pos c35] at H
                                      have c35b0 := eq_true c35
                                      have c35b1 : decide ((x8_2 ++ (⟨#[47]⟩ : ByteArray)).size + (rdOf ByteArray.empty l0 x34_2).size ≤ 9223372036854775807) = true := decide_eq_true c35
                                      try have c35b2 : (9223372036854775807 < (x8_2 ++ (⟨#[47]⟩ : ByteArray)).size + (rdOf ByteArray.empty l0 x34_2).size) = False := eq_false (Nat.not_lt.2 c35)
                                      try (have c35n := c35; simp only [ByteArray.size_append, ByteArray.size, List.size_toArray, List.length_cons, List.length_nil, Nat.zero_add, Nat.reduceAdd] at c35n; simp at c35n; have c35n0 := eq_true c35n; have c35n1 := eq_false (Nat.not_lt.2 c35n); have c35n2 := decide_eq_true c35n)
                                      have H' := Aside0.mk H
                                      clear H
                                      go_wp2
                                      go_roundg kj13
                                      case measure => have := HJ5.out; have := HK2.out; have := HJ13.out; omega
                                      case rel => exact ⟨((x7_2 ++ (⟨#[47]⟩ : ByteArray)) ++ (rdOf ByteArray.empty l0 x34_2)), ((x8_2 ++ (⟨#[47]⟩ : ByteArray)) ++ (rdOf ByteArray.empty l0 x34_2)), (wrap64 (x34_2 + 1)), (by first | rfl | (simp; done) | (simp [*]; done)), (by first | rfl | (simp; done) | (simp [*]; done)), (by first | rfl | (simp; done) | (simp [*]; done)), H', ⟨by have := HJ5.out; have := HK2.out; have := HJ13.out; omega⟩, ⟨by repeat (first | (with_reducible first | exact HB.out | apply below_alloc | apply pw_below_drewN | apply below_drew1) | exact HB.out)⟩⟩
                                    · rw [if_neg c35] at H
                                      exact absurd H (by simp)
                                  · rw [if_neg c34] at H
                                    exact absurd H (by simp)
                              · rw [if_neg c23] at H
                                exact absurd H (by simp)
                            · rw [if_neg c22] at H
                              exact absurd H (by simp)
                          · rw [if_neg c21] at H
                            have c21b0 : decide (0 < x34_2) = false := decide_eq_false c21
                            clear c21
                            by_cases c36 : x34_2 = a1
                            · rw [if_pos c36] at H
                              have c36b0 : (x34_2 == a1) = true := beq_iff_eq.mpr c36
                              have c36b1 : (x34_2 != a1) = false := bne_eq_false_iff_eq.mpr c36
                              clear c36
                              obtain ⟨y122, hy122⟩ : ∃ y_ : List ByteArray, y_ = (([(⟨#[46, 47]⟩ : ByteArray), (⟨#[120, 47, 46, 46, 47]⟩ : ByteArray), (⟨#[46, 47, 121, 47, 46, 47, 46, 46, 47]⟩ : ByteArray)] : List ByteArray)) := ⟨_, rfl⟩
                              replace H : (if 0 ≤ (Int.tmod a2 3) then (if (Int.tmod a2 3) < (y122.length : Int) then (if x8_2.size + (rdOf ByteArray.empty y122 (Int.tmod a2 3)).size ≤ 9223372036854775807 then (if x7_2.size + (rdOf ByteArray.empty l0 x34_2).size ≤ 9223372036854775807 then (if (x8_2 ++ (rdOf ByteArray.empty y122 (Int.tmod a2 3))).size + (rdOf ByteArray.empty l0 x34_2).size ≤ 9223372036854775807 then (laws_FnSameCleaned.l0 kj13 a1 a2 (x7_2 ++ (rdOf ByteArray.empty l0 x34_2)) ((x8_2 ++ (rdOf ByteArray.empty y122 (Int.tmod a2 3))) ++ (rdOf ByteArray.empty l0 x34_2)) l0 (l0.length : Int) (wrap64 (x34_2 + 1))) else (none)) else (none)) else (none)) else (none)) else (none)) = some r := by first | (rw [hy122]; with_reducible exact H) | (have H2_ := (Option.bind_some _ _).symm.trans H; rw [hy122]; with_reducible exact H2_) | (have H2_ := (Option.bind_some _ _).symm.trans H; with_reducible exact H2_) | with_reducible exact H | (rw [hy122]; exact H) | exact H
                              have Ny122 := Aside0.mk hy122
                              clear hy122
                              obtain ⟨ji37, hji37⟩ : ∃ j_ : Int, (Int.tmod a2 3) = j_ := ⟨_, rfl⟩
                              replace H : (if 0 ≤ (ji37) then (if (ji37) < (y122.length : Int) then (if x8_2.size + (rdOf ByteArray.empty y122 (ji37)).size ≤ 9223372036854775807 then (if x7_2.size + (rdOf ByteArray.empty l0 x34_2).size ≤ 9223372036854775807 then (if (x8_2 ++ (rdOf ByteArray.empty y122 (ji37))).size + (rdOf ByteArray.empty l0 x34_2).size ≤ 9223372036854775807 then (laws_FnSameCleaned.l0 kj13 a1 a2 (x7_2 ++ (rdOf ByteArray.empty l0 x34_2)) ((x8_2 ++ (rdOf ByteArray.empty y122 (ji37))) ++ (rdOf ByteArray.empty l0 x34_2)) l0 (l0.length : Int) (wrap64 (x34_2 + 1))) else (none)) else (none)) else (none)) else (none)) else (none)) = some r := by first | (rw [hji37] at H; exact H) | (simp only [hji37] at H ⊢; exact H)
                              by_cases c38 : 0 ≤ (ji37)
                              · rw [if_pos c38] at H
                                have c38b0 : decide (0 ≤ (ji37)) = true := decide_eq_true c38
                                clear c38
                                by_cases c39 : (ji37) < (y122.length : Int)
                                · rw [if_pos c39] at H
                                  have c39b0 : decide ((ji37) < (y122.length : Int)) = true := decide_eq_true c39
                                  clear c39
                                  by_cases c40 : x8_2.size + (rdOf ByteArray.empty y122 (ji37)).size ≤ 9223372036854775807
                                  · rw [if_pos c40] at H
                                    have c40b0 := eq_true c40
                                    have c40b1 : decide (x8_2.size + (rdOf ByteArray.empty y122 (ji37)).size ≤ 9223372036854775807) = true := decide_eq_true c40
                                    try have c40b2 : (9223372036854775807 < x8_2.size + (rdOf ByteArray.empty y122 (ji37)).size) = False := eq_false (Nat.not_lt.2 c40)
                                    by_cases c41 : x7_2.size + (rdOf ByteArray.empty l0 x34_2).size ≤ 9223372036854775807
                                    · rw [if_pos c41] at H
                                      have c41b0 := eq_true c41
                                      have c41b1 : decide (x7_2.size + (rdOf ByteArray.empty l0 x34_2).size ≤ 9223372036854775807) = true := decide_eq_true c41
                                      try have c41b2 : (9223372036854775807 < x7_2.size + (rdOf ByteArray.empty l0 x34_2).size) = False := eq_false (Nat.not_lt.2 c41)
                                      by_cases c42 : (x8_2 ++ (rdOf ByteArray.empty y122 (ji37))).size + (rdOf ByteArray.empty l0 x34_2).size ≤ 9223372036854775807
                                      · rw [if_pos c42] at H
                                        have c42b0 := eq_true c42
                                        have c42b1 : decide ((x8_2 ++ (rdOf ByteArray.empty y122 (ji37))).size + (rdOf ByteArray.empty l0 x34_2).size ≤ 9223372036854775807) = true := decide_eq_true c42
                                        try have c42b2 : (9223372036854775807 < (x8_2 ++ (rdOf ByteArray.empty y122 (ji37))).size + (rdOf ByteArray.empty l0 x34_2).size) = False := eq_false (Nat.not_lt.2 c42)
                                        try (have c42n := c42; simp only [ByteArray.size_append, ByteArray.size, List.size_toArray, List.length_cons, List.length_nil, Nat.zero_add, Nat.reduceAdd] at c42n; simp at c42n; have c42n0 := eq_true c42n; have c42n1 := eq_false (Nat.not_lt.2 c42n); have c42n2 := decide_eq_true c42n)
                                        have H' := Aside0.mk H
                                        clear H
                                        go_wp2_with (first | ((with_reducible refine gate_dst (N := 68) rfl ?_); (try (refine gate_guard (by rfl) ?_; dsimp only)); refine Kd.R_lit Kd.string _ 9 ?hg (N := 68) ?hd (xs := ([(⟨#[46, 47]⟩ : ByteArray), (⟨#[120, 47, 46, 46, 47]⟩ : ByteArray), (⟨#[46, 47, 121, 47, 46, 47, 46, 46, 47]⟩ : ByteArray)] : List ByteArray)) (inner := [.string (⟨#[46, 47]⟩ : ByteArray), .string (⟨#[120, 47, 46, 46, 47]⟩ : ByteArray), .string (⟨#[46, 47, 121, 47, 46, 47, 46, 46, 47]⟩ : ByteArray)]) (ok := fun _ => True) (okp := fun _ => True) ?hr ?hp (fun _ hk => hk) trivial (Below.refl _ _) (Nat.le_refl _) (by simp) ?_; (case hd => rfl); (case hg => rfl); (case hr => first | (go_simp; done) | (go_simp; rfl)); (case hp => exact (Reps.one (show Kd.M Kd.string _ _ _ (⟨#[46, 47]⟩ : ByteArray) [.string (⟨#[46, 47]⟩ : ByteArray)] from rfl) (Reps.one (show Kd.M Kd.string _ _ _ (⟨#[120, 47, 46, 46, 47]⟩ : ByteArray) [.string (⟨#[120, 47, 46, 46, 47]⟩ : ByteArray)] from rfl) (Reps.one (show Kd.M Kd.string _ _ _ (⟨#[46, 47, 121, 47, 46, 47, 46, 46, 47]⟩ : ByteArray) [.string (⟨#[46, 47, 121, 47, 46, 47, 46, 46, 47]⟩ : ByteArray)] from rfl) (Reps.none _ _))))); intro v123 w43 ho44 hb hg_ hnew_; clear hg_ hnew_; (first | rw [← Ny122.out] at ho44 | (simp only [Int.reduceToNat] at ho44; rw [← Ny122.out] at ho44)); have n0_ := Aside0.mk (Kd.R_lower ho44 (below_size (by repeat (first | (with_reducible first | exact HB.out | apply below_alloc | apply pw_below_drewN | apply below_drew1) | exact HB.out)))); have n1_ := Aside0.mk (below_step (by repeat (first | (with_reducible first | exact HB.out | apply below_alloc | apply pw_below_drewN | apply below_drew1) | exact HB.out)) hb); clear HB; have HO124 := n0_; have HB := n1_; clear n0_ n1_; clear hb ho44; obtain ⟨Ao45, co45, eo45⟩ := Kd.R_slice HO124.out; subst eo45; have p125 : 0 ≤ ((ji37) : Int) := of_decide_eq_true (by first | (with_reducible assumption) | assumption); have q125 : (ji37) < (y122.length : Int) := of_decide_eq_true (by first | (with_reducible assumption) | assumption); obtain ⟨ad125, e125, hx125_0⟩ := Kd.at_string (Kd.R_reads' HO124.out).2.2 (ji37) p125 q125; cases e125; replace p125 := eq_true p125; replace q125 := eq_true q125))
                                        go_roundg kj13
                                        case measure => have := HJ5.out; have := HK2.out; have := HJ13.out; omega
                                        case rel => exact ⟨(x7_2 ++ (rdOf ByteArray.empty l0 x34_2)), ((x8_2 ++ (rdOf ByteArray.empty y122 (ji37))) ++ (rdOf ByteArray.empty l0 x34_2)), (wrap64 (x34_2 + 1)), (by first | rfl | (simp; done) | (simp [*]; done)), (by first | rfl | (simp; done) | (simp only [← hji37] <;> (first | rfl | simp)) | (simp [*]; done)), (by first | rfl | (simp; done) | (simp [*]; done)), H', ⟨by have := HJ5.out; have := HK2.out; have := HJ13.out; omega⟩, ⟨by repeat (first | (with_reducible first | exact HB.out | apply below_alloc | apply pw_below_drewN | apply below_drew1) | exact HB.out)⟩⟩
                                      · rw [if_neg c42] at H
                                        exact absurd H (by simp)
                                    · rw [if_neg c41] at H
                                      exact absurd H (by simp)
                                  · rw [if_neg c40] at H
                                    exact absurd H (by simp)
                                · rw [if_neg c39] at H
                                  exact absurd H (by simp)
                              · rw [if_neg c38] at H
                                exact absurd H (by simp)
                            · rw [if_neg c36] at H
                              have c36b0 : (x34_2 == a1) = false := beq_eq_false_iff_ne.mpr c36
                              have c36b1 : (x34_2 != a1) = true := bne_iff_ne.mpr c36
                              by_cases c46 : x7_2.size + (rdOf ByteArray.empty l0 x34_2).size ≤ 9223372036854775807
                              · rw [if_pos c46] at H
                                have c46b0 := eq_true c46
                                have c46b1 : decide (x7_2.size + (rdOf ByteArray.empty l0 x34_2).size ≤ 9223372036854775807) = true := decide_eq_true c46
                                try have c46b2 : (9223372036854775807 < x7_2.size + (rdOf ByteArray.empty l0 x34_2).size) = False := eq_false (Nat.not_lt.2 c46)
                                by_cases c47 : x8_2.size + (rdOf ByteArray.empty l0 x34_2).size ≤ 9223372036854775807
                                · rw [if_pos c47] at H
                                  have c47b0 := eq_true c47
                                  have c47b1 : decide (x8_2.size + (rdOf ByteArray.empty l0 x34_2).size ≤ 9223372036854775807) = true := decide_eq_true c47
                                  try have c47b2 : (9223372036854775807 < x8_2.size + (rdOf ByteArray.empty l0 x34_2).size) = False := eq_false (Nat.not_lt.2 c47)
                                  have H' := Aside0.mk H
                                  clear H
                                  go_wp2
                                  go_roundg kj13
                                  case measure => have := HJ5.out; have := HK2.out; have := HJ13.out; omega
                                  case rel => exact ⟨(x7_2 ++ (rdOf ByteArray.empty l0 x34_2)), (x8_2 ++ (rdOf ByteArray.empty l0 x34_2)), (wrap64 (x34_2 + 1)), (by first | rfl | (simp; done) | (simp [*]; done)), (by first | rfl | (simp; done) | (simp [*]; done)), (by first | rfl | (simp; done) | (simp [*]; done)), H', ⟨by have := HJ5.out; have := HK2.out; have := HJ13.out; omega⟩, ⟨by repeat (first | (with_reducible first | exact HB.out | apply below_alloc | apply pw_below_drewN | apply below_drew1) | exact HB.out)⟩⟩
                                · rw [if_neg c47] at H
                                  exact absurd H (by simp)
                              · rw [if_neg c46] at H
                                exact absurd H (by simp)
                  · rw [if_neg c13] at H
                    exact absurd H (by simp)
                · rw [if_neg c12] at H
                  exact absurd H (by simp)
              · rw [if_neg c11] at H
                have c11b0 : decide (x34_2 < (l0.length : Int)) = false := decide_eq_false c11
                clear c11
                replace H := Option.bind_eq_some_iff.mp H
                obtain ⟨t113, A480, H⟩ := H
                replace H : (if t113 = true then (if 1 + x7_2.size ≤ 9223372036854775807 then (if x8_2.size + 1 ≤ 9223372036854775807 then ((impl_SameFilePath.f k2 ((⟨#[47]⟩ : ByteArray) ++ x7_2) (x8_2 ++ (⟨#[47]⟩ : ByteArray))).bind fun t114 => (if t114 = true then (if x7_2.size + 1 ≤ 9223372036854775807 then ((impl_SameFilePath.f k2 x7_2 (x7_2 ++ (⟨#[120]⟩ : ByteArray))).bind fun t115 => (some (!t115))) else (none)) else (some false))) else (none)) else (none)) else (some false)) = some r := H
                have A48 := Aside0.mk A480
                clear A480
                by_cases c49 : t113 = true
                · subst c49
                  have H1 : (if 1 + x7_2.size ≤ 9223372036854775807 then (if x8_2.size + 1 ≤ 9223372036854775807 then ((impl_SameFilePath.f k2 ((⟨#[47]⟩ : ByteArray) ++ x7_2) (x8_2 ++ (⟨#[47]⟩ : ByteArray))).bind fun t114 => (if t114 = true then (if x7_2.size + 1 ≤ 9223372036854775807 then ((impl_SameFilePath.f k2 x7_2 (x7_2 ++ (⟨#[120]⟩ : ByteArray))).bind fun t115 => (some (!t115))) else (none)) else (some false))) else (none)) else (none)) = some r := by rw [if_pos rfl] at H; exact H
                  clear H
                  have H := H1
                  clear H1
                  by_cases c50 : 1 + x7_2.size ≤ 9223372036854775807
                  · rw [if_pos c50] at H
                    have c50b0 := eq_true c50
                    have c50b1 : decide (1 + x7_2.size ≤ 9223372036854775807) = true := decide_eq_true c50
                    try have c50b2 : (9223372036854775807 < 1 + x7_2.size) = False := eq_false (Nat.not_lt.2 c50)
                    by_cases c51 : x8_2.size + 1 ≤ 9223372036854775807
                    · rw [if_pos c51] at H
                      have c51b0 := eq_true c51
                      have c51b1 : decide (x8_2.size + 1 ≤ 9223372036854775807) = true := decide_eq_true c51
                      try have c51b2 : (9223372036854775807 < x8_2.size + 1) = False := eq_false (Nat.not_lt.2 c51)
                      replace H := Option.bind_eq_some_iff.mp H
                      obtain ⟨t114, A520, H⟩ := H
                      replace H : (if t114 = true then (if x7_2.size + 1 ≤ 9223372036854775807 then ((impl_SameFilePath.f k2 x7_2 (x7_2 ++ (⟨#[120]⟩ : ByteArray))).bind fun t115 => (some (!t115))) else (none)) else (some false)) = some r := H
                      have A52 := Aside0.mk A520
                      clear A520
                      by_cases c53 : t114 = true
                      · subst c53
                        have H1 : (if x7_2.size + 1 ≤ 9223372036854775807 then ((impl_SameFilePath.f k2 x7_2 (x7_2 ++ (⟨#[120]⟩ : ByteArray))).bind fun t115 => (some (!t115))) else (none)) = some r := by rw [if_pos rfl] at H; exact H
                        clear H
                        have H := H1
                        clear H1
                        by_cases c54 : x7_2.size + 1 ≤ 9223372036854775807
                        · rw [if_pos c54] at H
                          have c54b0 := eq_true c54
                          have c54b1 : decide (x7_2.size + 1 ≤ 9223372036854775807) = true := decide_eq_true c54
                          try have c54b2 : (9223372036854775807 < x7_2.size + 1) = False := eq_false (Nat.not_lt.2 c54)
                          replace H := Option.bind_eq_some_iff.mp H
                          obtain ⟨t115, A550, H⟩ := H
                          replace H : (some (!t115)) = some r := H
                          have A55 := Aside0.mk A550
                          clear A550
                          obtain rfl := Option.some.inj H
                          go_wp2_with (first | ((with_reducible refine gate_callee (f := 29) rfl ?_); refine goesL_ (some 83) rfl rfl Try.func29 (by kernel_rfl) rfl #[.string x7_2, .string x8_2] rfl (by (try simp only [List.map_toArray, List.map_cons, List.map_nil]); first | done | rfl | (simp only [List.length_drop, List.length_take]; rfl)) ?_; (with_reducible refine (impl_SameFilePath.calls k2 x7_2 x8_2 true _ A48.out).mono ?_); rintro e w56 ⟨rfl, hb⟩; refine ⟨_, rfl, ?_⟩; have n0_ := Aside0.mk (below_step (by repeat (first | (with_reducible first | exact HB.out | apply below_alloc | apply pw_below_drewN | apply below_drew1) | exact HB.out)) hb); clear HB; have HB := n0_; clear n0_; (try clear hb); (try clear hb2); (try clear hk); (try clear hi)) | (go_at_call 29; (with_reducible refine (impl_SameFilePath.calls k2 ((⟨#[47]⟩ : ByteArray) ++ x7_2) (x8_2 ++ (⟨#[47]⟩ : ByteArray)) true _ A52.out).mono ?_); rintro e w57 ⟨rfl, hb⟩; have n0_ := Aside0.mk (below_step (by repeat (first | (with_reducible first | exact HB.out | apply below_alloc | apply pw_below_drewN | apply below_drew1) | exact HB.out)) hb); clear HB; have HB := n0_; clear n0_; (try clear hb); (try clear hb2); (try clear hk); (try clear hi)) | (go_at_call 29; (with_reducible refine (impl_SameFilePath.calls k2 x7_2 (x7_2 ++ (⟨#[120]⟩ : ByteArray)) t115 _ A55.out).mono ?_); rintro e w58 ⟨rfl, hb⟩; have n0_ := Aside0.mk (below_step (by repeat (first | (with_reducible first | exact HB.out | apply below_alloc | apply pw_below_drewN | apply below_drew1) | exact HB.out)) hb); clear HB; have HB := n0_; clear n0_; (try clear hb); (try clear hb2); (try clear hk); (try clear hi)))
                          go_ret
                          exact ⟨by first | rfl | (simp [errW_none, errW_some] <;> rfl) | (simp [*, errW_none, errW_some] <;> rfl), by repeat (first | (with_reducible first | exact HB.out | apply below_alloc | apply pw_below_drewN | apply below_drew1) | exact HB.out)⟩
                        · rw [if_neg c54] at H
                          exact absurd H (by simp)
                      · replace c53 := Bool.eq_false_iff.mpr c53
                        subst c53
                        have H1 : (some false) = some r := by rw [if_neg (show ¬ (false = true) by decide)] at H; exact H
                        clear H
                        have H := H1
                        clear H1
                        obtain rfl := Option.some.inj H
                        go_wp2_with (first | ((with_reducible refine gate_callee (f := 29) rfl ?_); refine goesL_ (some 83) rfl rfl Try.func29 (by kernel_rfl) rfl #[.string x7_2, .string x8_2] rfl (by (try simp only [List.map_toArray, List.map_cons, List.map_nil]); first | done | rfl | (simp only [List.length_drop, List.length_take]; rfl)) ?_; (with_reducible refine (impl_SameFilePath.calls k2 x7_2 x8_2 true _ A48.out).mono ?_); rintro e w59 ⟨rfl, hb⟩; refine ⟨_, rfl, ?_⟩; have n0_ := Aside0.mk (below_step (by repeat (first | (with_reducible first | exact HB.out | apply below_alloc | apply pw_below_drewN | apply below_drew1) | exact HB.out)) hb); clear HB; have HB := n0_; clear n0_; (try clear hb); (try clear hb2); (try clear hk); (try clear hi)) | (go_at_call 29; (with_reducible refine (impl_SameFilePath.calls k2 ((⟨#[47]⟩ : ByteArray) ++ x7_2) (x8_2 ++ (⟨#[47]⟩ : ByteArray)) false _ A52.out).mono ?_); rintro e w60 ⟨rfl, hb⟩; have n0_ := Aside0.mk (below_step (by repeat (first | (with_reducible first | exact HB.out | apply below_alloc | apply pw_below_drewN | apply below_drew1) | exact HB.out)) hb); clear HB; have HB := n0_; clear n0_; (try clear hb); (try clear hb2); (try clear hk); (try clear hi)))
                        go_ret
                        exact ⟨by first | rfl | (simp [errW_none, errW_some] <;> rfl) | (simp [*, errW_none, errW_some] <;> rfl), by repeat (first | (with_reducible first | exact HB.out | apply below_alloc | apply pw_below_drewN | apply below_drew1) | exact HB.out)⟩
                    · rw [if_neg c51] at H
                      exact absurd H (by simp)
                  · rw [if_neg c50] at H
                    exact absurd H (by simp)
                · replace c49 := Bool.eq_false_iff.mpr c49
                  subst c49
                  have H1 : (some false) = some r := by rw [if_neg (show ¬ (false = true) by decide)] at H; exact H
                  clear H
                  have H := H1
                  clear H1
                  obtain rfl := Option.some.inj H
                  go_wp2_with (first | ((with_reducible refine gate_callee (f := 29) rfl ?_); refine goesL_ (some 83) rfl rfl Try.func29 (by kernel_rfl) rfl #[.string x7_2, .string x8_2] rfl (by (try simp only [List.map_toArray, List.map_cons, List.map_nil]); first | done | rfl | (simp only [List.length_drop, List.length_take]; rfl)) ?_; (with_reducible refine (impl_SameFilePath.calls k2 x7_2 x8_2 false _ A48.out).mono ?_); rintro e w61 ⟨rfl, hb⟩; refine ⟨_, rfl, ?_⟩; have n0_ := Aside0.mk (below_step (by repeat (first | (with_reducible first | exact HB.out | apply below_alloc | apply pw_below_drewN | apply below_drew1) | exact HB.out)) hb); clear HB; have HB := n0_; clear n0_; (try clear hb); (try clear hb2); (try clear hk); (try clear hi)))
                  go_ret
                  exact ⟨by first | rfl | (simp [errW_none, errW_some] <;> rfl) | (simp [*, errW_none, errW_some] <;> rfl), by repeat (first | (with_reducible first | exact HB.out | apply below_alloc | apply pw_below_drewN | apply below_drew1) | exact HB.out)⟩
  · replace c5 := Bool.eq_false_iff.mpr c5
    subst c5
    have H1 : (some true) = some r := by rw [if_neg (show ¬ (false = true) by decide)] at H; exact H
    clear H
    have H := H1
    clear H1
    obtain rfl := Option.some.inj H
    go_enter Try.func5, Try.ntmps5
    go_wp2_with (first | ((with_reducible refine gate_callee (f := 27) rfl ?_); refine goesL_ (some 12) rfl rfl Try.func27 (by kernel_rfl) rfl #[.slice A0 l0.length c0] rfl (by (try simp only [List.map_toArray, List.map_cons, List.map_nil]); first | done | rfl | (simp only [List.length_drop, List.length_take]; rfl)) ?_; (with_reducible refine (laws_zzFits3.calls k _ _ l0 false _ ?side1 ?side2 A4.out).mono ?_); (case side1 => repeat (first | exact HR0.out | (with_reducible refine Kd.C_alloc ?_ _) | (with_reducible refine Kd.C_drewN ?_ _) | (with_reducible refine Kd.C_drew ?_))); (case side2 => exact HC0.out); rintro e w' ⟨rfl, ⟨nd, rfl⟩⟩; refine ⟨_, rfl, ?_⟩))
    go_ret
    exact ⟨by first | rfl | (simp [errW_none, errW_some] <;> rfl) | (simp [*, errW_none, errW_some] <;> rfl), by repeat (first | (with_reducible first | exact HB.out | apply below_alloc | apply pw_below_drewN | apply below_drew1) | exact HB.out)⟩

end Go.Proofs.Ytckfbpgjegbmlaa.PFnSameCleaned
