/- Printed by a program of this session (a printer turned to take contracts that were proved by hand): functions with the answers of the Go functions, and proofs that the code comes to these answers; no condition beyond what each theorem names. -/
import Derived.Test.YtckfbpgjegbmlaaPFnAbsPathx0
import Derived.Test.YtckfbpgjegbmlaaPFnAbsPathx1
namespace Go.Proofs.Ytckfbpgjegbmlaa.PFnAbsPath
open Go.RowKit Go.Proofs.YtckfbpgjegbmlaaW.PrintWords Go.Proofs.YtckfbpgjegbmlaaW.PrintLast Go.Proofs.YtckfbpgjegbmlaaW.PrintMore
attribute [local go_sem] max2_int min2_int max_two min_two max_three min_three max_four min_four   -- for this text's walks alone
set_option linter.unusedVariables false
set_option linter.unusedSimpArgs false

/-! ### spec_pathClean: function 45 -/
mutual
def spec_pathClean.l0 : Nat → ByteArray → List ByteArray → List ByteArray → Int → Option (ByteArray)
  | 0, _, _, _, _ => none
  | k + 1, x0, x3, x4, x5 => if x5 < (x4.length : Int) then (if 0 ≤ x5 then (if (rdOf ByteArray.empty x4 x5).toList = ([46] : List UInt8) then (spec_pathClean.l0 k x0 x3 x4 (wrap64 (x5 + 1))) else (if (rdOf ByteArray.empty x4 x5).toList = ([46, 46] : List UInt8) then (if (x3.length : Int) > 0 then (if 0 ≤ (wrap64 ((x3.length : Int) - 1)) then (if (wrap64 ((x3.length : Int) - 1)) < (x3.length : Int) then (spec_pathClean.j1 k x0 x3 x4 x5 ((rdOf ByteArray.empty x3 (wrap64 ((x3.length : Int) - 1))).toList != ([46, 46] : List UInt8))) else (none)) else (none)) else (spec_pathClean.j1 k x0 x3 x4 x5 false)) else (if x3.length < 8796093022208 then (spec_pathClean.l0 k x0 (x3 ++ [rdOf ByteArray.empty x4 x5]) x4 (wrap64 (x5 + 1))) else (none)))) else (none)) else (spec_pathClean.l1 k x0 x3 (⟨#[]⟩ : ByteArray) 0)
def spec_pathClean.j1 : Nat → ByteArray → List ByteArray → List ByteArray → Int → Bool → Option (ByteArray)
  | 0, _, _, _, _, _ => none
  | k + 1, x0, x3, x4, x5, x35 => if x35 = true then (if 0 ≤ (wrap64 ((x3.length : Int) - 1)) then (if (wrap64 ((x3.length : Int) - 1)) ≤ (x3.length : Int) then (spec_pathClean.l0 k x0 (x3.take ((wrap64 ((x3.length : Int) - 1)) : Int).toNat) x4 (wrap64 (x5 + 1))) else (none)) else (none)) else ((spec_pathAhead.f x0).bind fun t122 => (if t122 = true then (spec_pathClean.l0 k x0 x3 x4 (wrap64 (x5 + 1))) else (if x3.length < 8796093022208 then (spec_pathClean.l0 k x0 (x3 ++ [(⟨#[46, 46]⟩ : ByteArray)]) x4 (wrap64 (x5 + 1))) else (none))))
def spec_pathClean.l1 : Nat → ByteArray → List ByteArray → ByteArray → Int → Option (ByteArray)
  | 0, _, _, _, _ => none
  | k + 1, x0, x3, x6, x7 => if x7 < (x3.length : Int) then (if x7 > 0 then (if x6.size + 1 ≤ 9223372036854775807 then (if 0 ≤ x7 then (if (x6 ++ (⟨#[47]⟩ : ByteArray)).size + (rdOf ByteArray.empty x3 x7).size ≤ 9223372036854775807 then (spec_pathClean.l1 k x0 x3 ((x6 ++ (⟨#[47]⟩ : ByteArray)) ++ (rdOf ByteArray.empty x3 x7)) (wrap64 (x7 + 1))) else (none)) else (none)) else (none)) else (if 0 ≤ x7 then (if x6.size + (rdOf ByteArray.empty x3 x7).size ≤ 9223372036854775807 then (spec_pathClean.l1 k x0 x3 (x6 ++ (rdOf ByteArray.empty x3 x7)) (wrap64 (x7 + 1))) else (none)) else (none))) else ((spec_pathAhead.f x0).bind fun t132 => (if t132 = true then (if 1 + x6.size ≤ 9223372036854775807 then (some ((⟨#[47]⟩ : ByteArray) ++ x6)) else (none)) else (if x6.toList = ([] : List UInt8) then (some (⟨#[46]⟩ : ByteArray)) else (some x6))))
end
def spec_pathClean.f (k : Nat) (a0 : ByteArray) : Option (ByteArray) := (spec_FieldsSlash.f k a0).bind fun t113 => (spec_pathClean.l0 k a0 ([] : List ByteArray) t113 0)
theorem spec_pathClean.mono_l : ∀ k, (∀ y0 y1 y2 y3, LeO (spec_pathClean.l0 k y0 y1 y2 y3) (spec_pathClean.l0 (k + 1) y0 y1 y2 y3)) ∧ (∀ y0 y1 y2 y3 y4, LeO (spec_pathClean.j1 k y0 y1 y2 y3 y4) (spec_pathClean.j1 (k + 1) y0 y1 y2 y3 y4)) ∧ (∀ y0 y1 y2 y3, LeO (spec_pathClean.l1 k y0 y1 y2 y3) (spec_pathClean.l1 (k + 1) y0 y1 y2 y3))
  | 0 => ⟨fun _ _ _ _ r h => by simp [spec_pathClean.l0] at h, fun _ _ _ _ _ r h => by simp [spec_pathClean.j1] at h, fun _ _ _ _ r h => by simp [spec_pathClean.l1] at h⟩
  | k + 1 => by
    obtain ⟨ih0, ih1, ih2⟩ := spec_pathClean.mono_l k
    refine ⟨?_, ?_, ?_⟩
    · intro y0 y1 y2 y3
      unfold spec_pathClean.l0
      repeat' first
      | (with_reducible exact ih0 _ _ _ _)
      | (with_reducible exact ih1 _ _ _ _ _)
      | (with_reducible exact ih2 _ _ _ _)
      | (with_reducible exact spec_FieldsSlash.mono _ _)
      | (with_reducible exact LeO.refl _)
      | (with_reducible exact LeO.none _)
      | (with_reducible refine LeO.ite ?_ ?_)
      | (with_reducible refine LeO.bind ?_ (fun _ => ?_))
      | exact ih0 _ _ _ _
      | exact ih1 _ _ _ _ _
      | exact ih2 _ _ _ _
      | exact spec_FieldsSlash.mono _ _
      | exact LeO.none _
      | refine LeO.ite ?_ ?_
      | refine LeO.bind ?_ (fun _ => ?_)
    · intro y0 y1 y2 y3 y4
      unfold spec_pathClean.j1
      repeat' first
      | (with_reducible exact ih0 _ _ _ _)
      | (with_reducible exact ih1 _ _ _ _ _)
      | (with_reducible exact ih2 _ _ _ _)
      | (with_reducible exact spec_FieldsSlash.mono _ _)
      | (with_reducible exact LeO.refl _)
      | (with_reducible exact LeO.none _)
      | (with_reducible refine LeO.ite ?_ ?_)
      | (with_reducible refine LeO.bind ?_ (fun _ => ?_))
      | exact ih0 _ _ _ _
      | exact ih1 _ _ _ _ _
      | exact ih2 _ _ _ _
      | exact spec_FieldsSlash.mono _ _
      | exact LeO.none _
      | refine LeO.ite ?_ ?_
      | refine LeO.bind ?_ (fun _ => ?_)
    · intro y0 y1 y2 y3
      unfold spec_pathClean.l1
      repeat' first
      | (with_reducible exact ih0 _ _ _ _)
      | (with_reducible exact ih1 _ _ _ _ _)
      | (with_reducible exact ih2 _ _ _ _)
      | (with_reducible exact spec_FieldsSlash.mono _ _)
      | (with_reducible exact LeO.refl _)
      | (with_reducible exact LeO.none _)
      | (with_reducible refine LeO.ite ?_ ?_)
      | (with_reducible refine LeO.bind ?_ (fun _ => ?_))
      | exact ih0 _ _ _ _
      | exact ih1 _ _ _ _ _
      | exact ih2 _ _ _ _
      | exact spec_FieldsSlash.mono _ _
      | exact LeO.none _
      | refine LeO.ite ?_ ?_
      | refine LeO.bind ?_ (fun _ => ?_)
theorem spec_pathClean.mono : ∀ a0 k, LeO (spec_pathClean.f k a0) (spec_pathClean.f (k + 1) a0) := by
  intro a0 k
  obtain ⟨ih0, ih1, ih2⟩ := spec_pathClean.mono_l k
  unfold spec_pathClean.f
  repeat' first
      | (with_reducible exact ih0 _ _ _ _)
      | (with_reducible exact ih1 _ _ _ _ _)
      | (with_reducible exact ih2 _ _ _ _)
      | (with_reducible exact spec_FieldsSlash.mono _ _)
      | (with_reducible exact LeO.refl _)
      | (with_reducible exact LeO.none _)
      | (with_reducible refine LeO.ite ?_ ?_)
      | (with_reducible refine LeO.bind ?_ (fun _ => ?_))
      | exact ih0 _ _ _ _
      | exact ih1 _ _ _ _ _
      | exact ih2 _ _ _ _
      | exact spec_FieldsSlash.mono _ _
      | exact LeO.none _
      | refine LeO.ite ?_ ?_
      | refine LeO.bind ?_ (fun _ => ?_)
set_option maxHeartbeats 8000000 in
set_option maxRecDepth 100000 in
theorem spec_pathClean.calls (k : Nat) (a0 : ByteArray) (r : ByteArray) (w : World) (h : spec_pathClean.f k a0 = some r) :
    Calls Try.prog 45 #[.string a0] w fun e w' => e = .returned (.string r) ∧ Below w.heap.size w w' := by
  have HB := Aside0.mk (Below.refl w.heap.size w)
  have H : ((spec_FieldsSlash.f k a0).bind fun t113 => (spec_pathClean.l0 k a0 ([] : List ByteArray) t113 0)) = some r := h
  clear h
  replace H := Option.bind_eq_some_iff.mp H
  obtain ⟨t113, A20, H⟩ := H
  replace H : (spec_pathClean.l0 k a0 ([] : List ByteArray) t113 0) = some r := H
  have A2 := Aside0.mk A20
  clear A20
  have H' := Aside0.mk H
  clear H
  go_enter Try.func45, Try.ntmps45
  go_wp2_with (first | ((with_reducible refine gate_callee (f := 54) rfl ?_); refine goesL_ (some 9) rfl rfl Try.func54 (by kernel_rfl) rfl #[.string a0] rfl (by (try simp only [List.map_toArray, List.map_cons, List.map_nil]); first | done | rfl | (simp only [List.length_drop, List.length_take]; rfl)) ?_; (with_reducible refine (spec_FieldsSlash.calls k a0 t113 _ A2.out).mono ?_); rintro e w3 ⟨v114, rfl, ho0, hb⟩; refine ⟨_, rfl, ?_⟩; have n0_ := Aside0.mk (Kd.R_lower ho0 (below_size (by repeat (first | (with_reducible first | exact HB.out | apply below_alloc | apply pw_below_drewN | apply below_drew1) | exact HB.out)))); have n1_ := Aside0.mk (below_step (by repeat (first | (with_reducible first | exact HB.out | apply below_alloc | apply pw_below_drewN | apply below_drew1) | exact HB.out)) hb); clear HB; have HO115 := n0_; have HB := n1_; clear n0_ n1_; (try clear hb); (try clear hb2); (try clear hk); (try clear hi); (try clear ho0)))
  try simp only [Act.put, List.setIfInBounds_toArray, List.set_cons_succ, List.set_cons_zero]
  go_loopg [3, 5] k (fun kq v3 v5 w' => ∃ (x3_1 : List ByteArray) (x5_1 : Int), v5 = .int .i64 x5_1 ∧ Aside0 (spec_pathClean.l0 kq a0 x3_1 t113 x5_1 = some r) ∧ Aside0 (kq ≤ k) ∧ Aside0 (Kd.R Kd.string 9 w' w.heap.size (fun k_ => some k_ ≠ (v114 : Value).ownBlock) v3 x3_1) ∧ Aside0 (Kd.R Kd.string 9 w' w.heap.size (fun k_ => some k_ ≠ (v3 : Value).ownBlock) v114 t113) ∧ Aside0 (Below w.heap.size w w'))
  case atStart => exact ⟨(([] : List ByteArray)), (0), (by first | rfl | (simp; done) | (simp [*]; done)), H', ⟨Nat.le_refl _⟩, ⟨by first | exact Kd.R_nil _ _ _ _ _ | exact Kd.N_nil _ _ _ _ _ | exact Kd.V_nil _ _ _ _ _ | exact Kd.Q_nil _ _ _ _ _ | exact Kd.S_nil _ _ _ _ _⟩, ⟨by (with_reducible repeat (first | apply Kd.R_alloc | apply Kd.R_drewN | apply Kd.R_drew)); exact Kd.R_mono HO115.out (fun _ hk => (by simp [Value.ownBlock]))⟩, ⟨by repeat (first | (with_reducible first | exact HB.out | apply below_alloc | apply pw_below_drewN | apply below_drew1) | exact HB.out)⟩⟩
  case round =>
    clear H'
    try clear p2
    obtain ⟨x3_1, x5_1, rfl, HA, HK1, HO_3, HO_4, HB⟩ := hrel
    cases gk with
    | zero => exact absurd HA.out (by simp [spec_pathClean.l0])
    | succ k1 =>
      have H := HA.out
      clear HA
      simp only [spec_pathClean.l0] at H
      by_cases c4 : x5_1 < (t113.length : Int)
      · rw [if_pos c4] at H
        have c4b0 : decide (x5_1 < (t113.length : Int)) = true := decide_eq_true c4
        clear c4
        by_cases c5 : 0 ≤ x5_1
        · rw [if_pos c5] at H
          have c5b0 : decide (0 ≤ x5_1) = true := decide_eq_true c5
          clear c5
          by_cases c6 : (rdOf ByteArray.empty t113 x5_1).toList = ([46] : List UInt8)
          · rw [if_pos c6] at H
            have c6b0 : ((rdOf ByteArray.empty t113 x5_1).toList == ([46] : List UInt8)) = true := beq_iff_eq.mpr c6
            have c6b1 : ((rdOf ByteArray.empty t113 x5_1).toList != ([46] : List UInt8)) = false := bne_eq_false_iff_eq.mpr c6
            clear c6
            have H' := Aside0.mk H
            clear H
            obtain ⟨Ao7, co7, eo7⟩ := Kd.R_slice HO_4.out
            subst eo7
            have p116 : 0 ≤ (x5_1 : Int) := of_decide_eq_true (by first | (with_reducible assumption) | assumption)
            have q116 : x5_1 < (t113.length : Int) := of_decide_eq_true (by first | (with_reducible assumption) | assumption)
            obtain ⟨ad116, e116, hx116_0⟩ := Kd.at_string (Kd.R_reads' HO_4.out).2.2 x5_1 p116 q116
            cases e116
            replace p116 := eq_true p116
            replace q116 := eq_true q116
            go_wp2
            go_roundg k1
            case measure => have := HK1.out; omega
            case rel => exact ⟨(x3_1), (wrap64 (x5_1 + 1)), (by first | rfl | (simp; done) | (simp [*]; done)), H', ⟨by have := HK1.out; omega⟩, ⟨by (with_reducible repeat (first | apply Kd.R_alloc | apply Kd.R_drewN | apply Kd.R_drew)); (first | exact HO_3.out | (have z_ := HO_3.out; simp only [own_map] at z_ ⊢; exact z_))⟩, ⟨by (with_reducible repeat (first | apply Kd.R_alloc | apply Kd.R_drewN | apply Kd.R_drew)); (first | exact HO_4.out | (have z_ := HO_4.out; simp only [own_map] at z_ ⊢; exact z_))⟩, ⟨by repeat (first | (with_reducible first | exact HB.out | apply below_alloc | apply pw_below_drewN | apply below_drew1) | exact HB.out)⟩⟩
          · rw [if_neg c6] at H
            have c6b0 : ((rdOf ByteArray.empty t113 x5_1).toList == ([46] : List UInt8)) = false := beq_eq_false_iff_ne.mpr c6
            have c6b1 : ((rdOf ByteArray.empty t113 x5_1).toList != ([46] : List UInt8)) = true := bne_iff_ne.mpr c6
            by_cases c8 : (rdOf ByteArray.empty t113 x5_1).toList = ([46, 46] : List UInt8)
            · rw [if_pos c8] at H
              have c8b0 : ((rdOf ByteArray.empty t113 x5_1).toList == ([46, 46] : List UInt8)) = true := beq_iff_eq.mpr c8
              have c8b1 : ((rdOf ByteArray.empty t113 x5_1).toList != ([46, 46] : List UInt8)) = false := bne_eq_false_iff_eq.mpr c8
              clear c8
              have HC9 := Aside0.mk H
              clear H
              obtain ⟨Ao10, co10, eo10⟩ := Kd.R_slice HO_4.out
              subst eo10
              have p116 : 0 ≤ (x5_1 : Int) := of_decide_eq_true (by first | (with_reducible assumption) | assumption)
              have q116 : x5_1 < (t113.length : Int) := of_decide_eq_true (by first | (with_reducible assumption) | assumption)
              obtain ⟨ad116, e116, hx116_0⟩ := Kd.at_string (Kd.R_reads' HO_4.out).2.2 x5_1 p116 q116
              cases e116
              replace p116 := eq_true p116
              replace q116 := eq_true q116
              have p117 : 0 ≤ (x5_1 : Int) := of_decide_eq_true (by first | (with_reducible assumption) | assumption)
              have q117 : x5_1 < (t113.length : Int) := of_decide_eq_true (by first | (with_reducible assumption) | assumption)
              obtain ⟨ad117, e117, hx117_0⟩ := Kd.at_string (Kd.R_reads' HO_4.out).2.2 x5_1 p117 q117
              obtain rfl : ad116 = ad117 := (by injection e117)
              replace p117 := eq_true p117
              replace q117 := eq_true q117
              go_upto_region 9 with (fail)
              go_cut [35] (fun v35 wc => ∃ (kq : Nat) (x35_8 : Bool), v35 = .bool x35_8 ∧ Aside0 (spec_pathClean.j1 kq a0 x3_1 t113 x5_1 x35_8 = some r) ∧ Aside0 (kq ≤ k1) ∧ Aside0 (Kd.R Kd.string 9 wc w.heap.size (fun k_ => some k_ ≠ ((.slice (some ad116) t113.length co10) : Value).ownBlock) u3 x3_1) ∧ Aside0 (Kd.R Kd.string 9 wc w.heap.size (fun k_ => some k_ ≠ (u3 : Value).ownBlock) (.slice (some ad116) t113.length co10) t113) ∧ Aside0 (Below w.heap.size w wc))
              case first =>
                have H := HC9.out
                clear HC9
                by_cases c11 : (x3_1.length : Int) > 0
                · rw [if_pos c11] at H
                  have c11b0 : decide (0 < (x3_1.length : Int)) = true := decide_eq_true c11
                  have c11b1 : decide (0 < x3_1.length) = true := decide_eq_true (by omega)
                  clear c11
                  (first | rw [c11b0] | (simp only [i64_w, i32_w]; rw [c11b0]) | skip)
                  obtain ⟨ji12, hji12⟩ : ∃ j_ : Int, (wrap64 ((x3_1.length : Int) - 1)) = j_ := ⟨_, rfl⟩
                  replace H : (if 0 ≤ (ji12) then (if (ji12) < (x3_1.length : Int) then (spec_pathClean.j1 k1 a0 x3_1 t113 x5_1 ((rdOf ByteArray.empty x3_1 (ji12)).toList != ([46, 46] : List UInt8))) else (none)) else (none)) = some r := by first | (rw [hji12] at H; exact H) | (simp only [hji12] at H ⊢; exact H)
                  have hji12w : (IntKind.i64.wrap ((x3_1.length : Int) - 1)) = ji12 := (i64_w _).trans hji12
                  by_cases c13 : 0 ≤ (ji12)
                  · rw [if_pos c13] at H
                    have c13b0 : decide (0 ≤ (ji12)) = true := decide_eq_true c13
                    clear c13
                    by_cases c14 : (ji12) < (x3_1.length : Int)
                    · rw [if_pos c14] at H
                      have c14b0 : decide ((ji12) < (x3_1.length : Int)) = true := decide_eq_true c14
                      clear c14
                      have H' := Aside0.mk H
                      clear H
                      obtain ⟨Ao15, co15, eo15⟩ := Kd.R_slice HO_3.out
                      subst eo15
                      have p118 : 0 ≤ ((ji12) : Int) := of_decide_eq_true (by first | (with_reducible assumption) | assumption)
                      have q118 : (ji12) < (x3_1.length : Int) := of_decide_eq_true (by first | (with_reducible assumption) | assumption)
                      obtain ⟨ad118, e118, hx118_0⟩ := Kd.at_string (Kd.R_reads' HO_3.out).2.2 (ji12) p118 q118
                      cases e118
                      replace p118 := eq_true p118
                      replace q118 := eq_true q118
                      go_wp2
                      go_meet
                      case rel => exact ⟨_, (((rdOf ByteArray.empty x3_1 (ji12)).toList != ([46, 46] : List UInt8))), (by first | rfl | (simp; done) | (simp only [← hji12] <;> (first | rfl | simp)) | (simp [*]; done)), H', ⟨by have := HK1.out; first | omega | exact Nat.le_refl _⟩, ⟨by (with_reducible repeat (first | apply Kd.R_alloc | apply Kd.R_drewN | apply Kd.R_drew)); (first | exact HO_3.out | (have z_ := HO_3.out; simp only [own_map] at z_ ⊢; exact z_))⟩, ⟨by (with_reducible repeat (first | apply Kd.R_alloc | apply Kd.R_drewN | apply Kd.R_drew)); (first | exact HO_4.out | (have z_ := HO_4.out; simp only [own_map] at z_ ⊢; exact z_))⟩, ⟨by repeat (first | (with_reducible first | exact HB.out | apply below_alloc | apply pw_below_drewN | apply below_drew1) | exact HB.out)⟩⟩
                    · rw [if_neg c14] at H
                      exact absurd H (by simp)
                  · rw [if_neg c13] at H
                    exact absurd H (by simp)
                · rw [if_neg c11] at H
                  have c11b0 : decide (0 < (x3_1.length : Int)) = false := decide_eq_false c11
                  have c11b1 : decide (0 < x3_1.length) = false := decide_eq_false (by omega)
                  clear c11
                  (first | rw [c11b0] | (simp only [i64_w, i32_w]; rw [c11b0]) | skip)
                  have H' := Aside0.mk H
                  clear H
                  obtain ⟨Ao16, co16, eo16⟩ := Kd.R_slice HO_3.out
                  subst eo16
                  go_wp2
                  go_meet
                  case rel => exact ⟨_, (false), (by first | rfl | (simp; done) | (simp [*]; done)), H', ⟨by have := HK1.out; first | omega | exact Nat.le_refl _⟩, ⟨by (with_reducible repeat (first | apply Kd.R_alloc | apply Kd.R_drewN | apply Kd.R_drew)); (first | exact HO_3.out | (have z_ := HO_3.out; simp only [own_map] at z_ ⊢; exact z_))⟩, ⟨by (with_reducible repeat (first | apply Kd.R_alloc | apply Kd.R_drewN | apply Kd.R_drew)); (first | exact HO_4.out | (have z_ := HO_4.out; simp only [own_map] at z_ ⊢; exact z_))⟩, ⟨by repeat (first | (with_reducible first | exact HB.out | apply below_alloc | apply pw_below_drewN | apply below_drew1) | exact HB.out)⟩⟩
              case rest =>
                clear HC9
                try clear c1
                try clear p1
                try clear q1
                try clear hx1
                try clear p2
                try clear c4
                try clear c4b0
                try clear c5
                try clear c5b0
                try clear c6
                try clear c6b0
                try clear c6b1
                try clear p6
                try clear c8
                try clear c8b0
                try clear c8b1
                try clear c11
                try clear c11b0
                try clear c11b1
                try clear p11
                try clear q11
                try clear hx11
                try clear c13
                try clear c13b0
                try clear c14
                try clear c14b0
                try clear hx116_0
                try clear hx117_0
                try clear hx118_0
                try clear p116
                try clear p117
                try clear p118
                try clear p2
                try clear q116
                try clear q117
                try clear q118
                obtain ⟨kq, x35_8, rfl, HA, HJ8, HO_3, HO_4, HB⟩ := hcut
                cases kq with
                | zero => exact absurd HA.out (by simp [spec_pathClean.j1])
                | succ kj8 =>
                  have H := HA.out
                  clear HA
                  simp only [spec_pathClean.j1] at H
                  by_cases c17 : x35_8 = true
                  · subst c17
                    have H1 : (if 0 ≤ (wrap64 ((x3_1.length : Int) - 1)) then (if (wrap64 ((x3_1.length : Int) - 1)) ≤ (x3_1.length : Int) then (spec_pathClean.l0 kj8 a0 (x3_1.take ((wrap64 ((x3_1.length : Int) - 1)) : Int).toNat) t113 (wrap64 (x5_1 + 1))) else (none)) else (none)) = some r := by rw [if_pos rfl] at H; exact H
                    clear H
                    have H := H1
                    clear H1
                    obtain ⟨ji18, hji18⟩ : ∃ j_ : Int, (wrap64 ((x3_1.length : Int) - 1)) = j_ := ⟨_, rfl⟩
                    replace H : (if 0 ≤ (ji18) then (if (ji18) ≤ (x3_1.length : Int) then (spec_pathClean.l0 kj8 a0 (x3_1.take ((ji18) : Int).toNat) t113 (wrap64 (x5_1 + 1))) else (none)) else (none)) = some r := by first | (rw [hji18] at H; exact H) | (simp only [hji18] at H ⊢; exact H)
                    have hji18w : (IntKind.i64.wrap ((x3_1.length : Int) - 1)) = ji18 := (i64_w _).trans hji18
                    by_cases c19 : 0 ≤ (ji18)
                    · rw [if_pos c19] at H
                      have c19b0 := eq_true c19
                      have c19b1 : decide (0 ≤ (ji18)) = true := decide_eq_true c19
                      clear c19
                      by_cases c20 : (ji18) ≤ (x3_1.length : Int)
                      · rw [if_pos c20] at H
                        have c20b0 := eq_true c20
                        have c20b1 : decide ((ji18) ≤ (x3_1.length : Int)) = true := decide_eq_true c20
                        clear c20
                        obtain ⟨y119, hy119⟩ : ∃ y_ : List ByteArray, y_ = (x3_1.take ((ji18) : Int).toNat) := ⟨_, rfl⟩
                        replace H : (spec_pathClean.l0 kj8 a0 y119 t113 (wrap64 (x5_1 + 1))) = some r := by first | (rw [hy119]; with_reducible exact H) | (have H2_ := (Option.bind_some _ _).symm.trans H; rw [hy119]; with_reducible exact H2_) | (have H2_ := (Option.bind_some _ _).symm.trans H; with_reducible exact H2_) | with_reducible exact H | (rw [hy119]; exact H) | exact H
                        have Ny119 := Aside0.mk hy119
                        clear hy119
                        have H' := Aside0.mk H
                        clear H
                        obtain ⟨Ao21, co21, eo21⟩ := Kd.R_slice HO_3.out
                        subst eo21
                        have q22 : ((ji18) : Int) ≤ ((x3_1.length : Int) : Int) := of_decide_eq_true (by first | (with_reducible assumption) | assumption)
                        obtain ⟨i022, hi022, _, hsz22, _⟩ := info_parts info9
                        have hcut22 := cut_to (P := Try.prog) 24 9 .i64 Try.underlying24 hi022 Ao21 x3_1.length co21 (ji18) (of_decide_eq_true (by first | (with_reducible assumption) | assumption)) q22 (Kd.R_reads' HO_3.out).2.1
                        have hr22 := Kd.R_take (m := ((ji18) : Int).toNat) HO_3.out (by omega)
                        have hy22 : y119.length = ((ji18) : Int).toNat := (by rw [Ny119.out, List.length_take]; omega)
                        rw [← Ny119.out] at hr22
                        rw [← hy22] at hr22 hcut22
                        clear hy22 hi022 hsz22 HO_3
                        have HO121 := Aside0.mk hr22
                        clear hr22
                        replace q22 := eq_true q22
                        go_wp2
                        go_roundg kj8
                        case measure => have := HK1.out; have := HJ8.out; omega
                        case rel => exact ⟨(y119), (wrap64 (x5_1 + 1)), (by first | rfl | (simp; done) | (simp [*]; done)), H', ⟨by have := HK1.out; have := HJ8.out; omega⟩, ⟨by (with_reducible repeat (first | apply Kd.R_alloc | apply Kd.R_drewN | apply Kd.R_drew)); (first | exact HO121.out | (have z_ := HO121.out; simp only [own_map] at z_ ⊢; exact z_))⟩, ⟨by (with_reducible repeat (first | apply Kd.R_alloc | apply Kd.R_drewN | apply Kd.R_drew)); (first | exact HO_4.out | (have z_ := HO_4.out; simp only [own_map] at z_ ⊢; exact z_))⟩, ⟨by repeat (first | (with_reducible first | exact HB.out | apply below_alloc | apply pw_below_drewN | apply below_drew1) | exact HB.out)⟩⟩
                      · rw [if_neg c20] at H
                        exact absurd H (by simp)
                    · rw [if_neg c19] at H
                      exact absurd H (by simp)
                  · replace c17 := Bool.eq_false_iff.mpr c17
                    subst c17
                    have H1 : ((spec_pathAhead.f a0).bind fun t122 => (if t122 = true then (spec_pathClean.l0 kj8 a0 x3_1 t113 (wrap64 (x5_1 + 1))) else (if x3_1.length < 8796093022208 then (spec_pathClean.l0 kj8 a0 (x3_1 ++ [(⟨#[46, 46]⟩ : ByteArray)]) t113 (wrap64 (x5_1 + 1))) else (none)))) = some r := by rw [if_neg (show ¬ (false = true) by decide)] at H; exact H
                    clear H
                    have H := H1
                    clear H1
                    replace H := Option.bind_eq_some_iff.mp H
                    obtain ⟨t122, A230, H⟩ := H
                    replace H : (if t122 = true then (spec_pathClean.l0 kj8 a0 x3_1 t113 (wrap64 (x5_1 + 1))) else (if x3_1.length < 8796093022208 then (spec_pathClean.l0 kj8 a0 (x3_1 ++ [(⟨#[46, 46]⟩ : ByteArray)]) t113 (wrap64 (x5_1 + 1))) else (none))) = some r := H
                    have A23 := Aside0.mk A230
                    clear A230
                    by_cases c24 : t122 = true
                    · subst c24
                      have H1 : (spec_pathClean.l0 kj8 a0 x3_1 t113 (wrap64 (x5_1 + 1))) = some r := by rw [if_pos rfl] at H; exact H
                      clear H
                      have H := H1
                      clear H1
                      have H' := Aside0.mk H
                      clear H
                      go_wp2_with (first | ((with_reducible refine gate_callee (f := 36) rfl ?_); refine goesL_ (some 55) rfl rfl Try.func36 (by kernel_rfl) rfl #[.string a0] rfl (by (try simp only [List.map_toArray, List.map_cons, List.map_nil]); first | done | rfl | (simp only [List.length_drop, List.length_take]; rfl)) ?_; (with_reducible refine (spec_pathAhead.calls a0 true _ A23.out).mono ?_); rintro e w' ⟨rfl, ⟨nd, rfl⟩⟩; refine ⟨_, rfl, ?_⟩))
                      go_roundg kj8
                      case measure => have := HK1.out; have := HJ8.out; omega
                      case rel => exact ⟨(x3_1), (wrap64 (x5_1 + 1)), (by first | rfl | (simp; done) | (simp [*]; done)), H', ⟨by have := HK1.out; have := HJ8.out; omega⟩, ⟨by (with_reducible repeat (first | apply Kd.R_alloc | apply Kd.R_drewN | apply Kd.R_drew)); (first | exact HO_3.out | (have z_ := HO_3.out; simp only [own_map] at z_ ⊢; exact z_))⟩, ⟨by (with_reducible repeat (first | apply Kd.R_alloc | apply Kd.R_drewN | apply Kd.R_drew)); (first | exact HO_4.out | (have z_ := HO_4.out; simp only [own_map] at z_ ⊢; exact z_))⟩, ⟨by repeat (first | (with_reducible first | exact HB.out | apply below_alloc | apply pw_below_drewN | apply below_drew1) | exact HB.out)⟩⟩
                    · replace c24 := Bool.eq_false_iff.mpr c24
                      subst c24
                      have H1 : (if x3_1.length < 8796093022208 then (spec_pathClean.l0 kj8 a0 (x3_1 ++ [(⟨#[46, 46]⟩ : ByteArray)]) t113 (wrap64 (x5_1 + 1))) else (none)) = some r := by rw [if_neg (show ¬ (false = true) by decide)] at H; exact H
                      clear H
                      have H := H1
                      clear H1
                      by_cases c25 : x3_1.length < 8796093022208
                      · rw [if_pos c25] at H
                        have LMc25 := Aside0.mk c25
                        clear c25
                        obtain ⟨y123, hy123⟩ : ∃ y_ : List ByteArray, y_ = (x3_1 ++ [(⟨#[46, 46]⟩ : ByteArray)]) := ⟨_, rfl⟩
                        replace H : (spec_pathClean.l0 kj8 a0 y123 t113 (wrap64 (x5_1 + 1))) = some r := by first | (rw [hy123]; with_reducible exact H) | (have H2_ := (Option.bind_some _ _).symm.trans H; rw [hy123]; with_reducible exact H2_) | (have H2_ := (Option.bind_some _ _).symm.trans H; with_reducible exact H2_) | with_reducible exact H | (rw [hy123]; exact H) | exact H
                        have Ny123 := Aside0.mk hy123
                        clear hy123
                        have H' := Aside0.mk H
                        clear H
                        go_wp2_with (first | ((with_reducible refine gate_callee (f := 36) rfl ?_); refine goesL_ (some 55) rfl rfl Try.func36 (by kernel_rfl) rfl #[.string a0] rfl (by (try simp only [List.map_toArray, List.map_cons, List.map_nil]); first | done | rfl | (simp only [List.length_drop, List.length_take]; rfl)) ?_; (with_reducible refine (spec_pathAhead.calls a0 false _ A23.out).mono ?_); rintro e w' ⟨rfl, ⟨nd, rfl⟩⟩; refine ⟨_, rfl, ?_⟩) | ((with_reducible refine gate_builtin (b := .append) (xs := #[.tmp 57, .tmp 58]) rfl ?_); (try (refine gate_guard (by rfl) ?_; dsimp only)); at_builtin; refine Kd.R_append Kd.string (w0 := w) w.heap.size rfl (.tmp 57) (.tmp 58) 24 9 (.string ⟨#[]⟩) 16 rfl Try.underlying24 info9 rfl (by decide) (by omega) u3 x3_1 (⟨#[46, 46]⟩ : ByteArray) [.string (⟨#[46, 46]⟩ : ByteArray)] (fun k_ => some k_ ≠ (.slice (some ad116) t113.length co10 : Value).ownBlock) (fun _ => False) rfl rfl ?aP (fun _ hk => hk.elim) ?aF ?aO ?aB ?aS ?aL ?_; (case aP => exact rfl); (case aB => exact (by repeat (first | (with_reducible first | exact HB.out | apply below_alloc | apply pw_below_drewN | apply below_drew1) | exact HB.out))); (case aF => exact (fun k_ hk => Kd.fresh' (Kd.R_lt (by (with_reducible repeat (first | apply Kd.R_alloc | apply Kd.R_drewN | apply Kd.R_drew)); exact HO_4.out)) k_ hk)); (case aO => exact (by (with_reducible repeat (first | apply Kd.R_alloc | apply Kd.R_drewN | apply Kd.R_drew)); exact HO_3.out)); (case aS => exact (below_size (by repeat (first | (with_reducible first | exact HB.out | apply below_alloc | apply pw_below_drewN | apply below_drew1) | exact HB.out)))); (case aL => have := LMc25.out; omega); intro v124 w26 ho hb hg hat; rw [← Ny123.out] at ho; have n0_ := Aside0.mk (Kd.R_after (ok := (fun _ => True)) (by (with_reducible repeat (first | apply Kd.R_alloc | apply Kd.R_drewN | apply Kd.R_drew)); exact Kd.R_mono HO_4.out (fun _ hk => ⟨trivial, hk⟩)) hg hat); have n1_ := Aside0.mk (hb); have n2_ := Aside0.mk (ho); clear HO_4; clear HB; clear HO_3; have HO_4 := n0_; have HB := n1_; have HO125 := n2_; clear n0_ n1_ n2_; clear ho hb hg hat))
                        go_roundg kj8
                        case measure => have := HK1.out; have := HJ8.out; omega
                        case rel => exact ⟨(y123), (wrap64 (x5_1 + 1)), (by first | rfl | (simp; done) | (simp [*]; done)), H', ⟨by have := HK1.out; have := HJ8.out; omega⟩, ⟨by (with_reducible repeat (first | apply Kd.R_alloc | apply Kd.R_drewN | apply Kd.R_drew)); (first | exact HO125.out | (have z_ := HO125.out; simp only [own_map] at z_ ⊢; exact z_))⟩, ⟨by (with_reducible repeat (first | apply Kd.R_alloc | apply Kd.R_drewN | apply Kd.R_drew)); exact Kd.R_mono HO_4.out (fun _ hk => hk.2)⟩, ⟨by repeat (first | (with_reducible first | exact HB.out | apply below_alloc | apply pw_below_drewN | apply below_drew1) | exact HB.out)⟩⟩
                      · rw [if_neg c25] at H
                        exact absurd H (by simp)
            · rw [if_neg c8] at H
              have c8b0 : ((rdOf ByteArray.empty t113 x5_1).toList == ([46, 46] : List UInt8)) = false := beq_eq_false_iff_ne.mpr c8
              have c8b1 : ((rdOf ByteArray.empty t113 x5_1).toList != ([46, 46] : List UInt8)) = true := bne_iff_ne.mpr c8
              by_cases c27 : x3_1.length < 8796093022208
              · rw [if_pos c27] at H
                have LMc27 := Aside0.mk c27
                clear c27
                obtain ⟨y127, hy127⟩ : ∃ y_ : List ByteArray, y_ = (x3_1 ++ [rdOf ByteArray.empty t113 x5_1]) := ⟨_, rfl⟩
                replace H : (spec_pathClean.l0 k1 a0 y127 t113 (wrap64 (x5_1 + 1))) = some r := by first | (rw [hy127]; with_reducible exact H) | (have H2_ := (Option.bind_some _ _).symm.trans H; rw [hy127]; with_reducible exact H2_) | (have H2_ := (Option.bind_some _ _).symm.trans H; with_reducible exact H2_) | with_reducible exact H | (rw [hy127]; exact H) | exact H
                have Ny127 := Aside0.mk hy127
                clear hy127
                have H' := Aside0.mk H
                clear H
                obtain ⟨Ao28, co28, eo28⟩ := Kd.R_slice HO_4.out
                subst eo28
                have p116 : 0 ≤ (x5_1 : Int) := of_decide_eq_true (by first | (with_reducible assumption) | assumption)
                have q116 : x5_1 < (t113.length : Int) := of_decide_eq_true (by first | (with_reducible assumption) | assumption)
                obtain ⟨ad116, e116, hx116_0⟩ := Kd.at_string (Kd.R_reads' HO_4.out).2.2 x5_1 p116 q116
                cases e116
                replace p116 := eq_true p116
                replace q116 := eq_true q116
                have p117 : 0 ≤ (x5_1 : Int) := of_decide_eq_true (by first | (with_reducible assumption) | assumption)
                have q117 : x5_1 < (t113.length : Int) := of_decide_eq_true (by first | (with_reducible assumption) | assumption)
                obtain ⟨ad117, e117, hx117_0⟩ := Kd.at_string (Kd.R_reads' HO_4.out).2.2 x5_1 p117 q117
                obtain rfl : ad116 = ad117 := (by injection e117)
                replace p117 := eq_true p117
                replace q117 := eq_true q117
                have p126 : 0 ≤ (x5_1 : Int) := of_decide_eq_true (by first | (with_reducible assumption) | assumption)
                have q126 : x5_1 < (t113.length : Int) := of_decide_eq_true (by first | (with_reducible assumption) | assumption)
                obtain ⟨ad126, e126, hx126_0⟩ := Kd.at_string (Kd.R_reads' HO_4.out).2.2 x5_1 p126 q126
                obtain rfl : ad116 = ad126 := (by injection e126)
                replace p126 := eq_true p126
                replace q126 := eq_true q126
                go_wp2_with (first | ((with_reducible refine gate_builtin (b := .append) (xs := #[.tmp 28, .tmp 33]) rfl ?_); (try (refine gate_guard (by rfl) ?_; dsimp only)); at_builtin; refine Kd.R_append Kd.string (w0 := w) w.heap.size rfl (.tmp 28) (.tmp 33) 24 9 (.string ⟨#[]⟩) 16 rfl Try.underlying24 info9 rfl (by decide) (by omega) u3 x3_1 (rdOf ByteArray.empty t113 x5_1) [.string (rdOf ByteArray.empty t113 x5_1)] (fun k_ => some k_ ≠ (.slice (some ad116) t113.length co28 : Value).ownBlock) (fun _ => False) rfl rfl ?aP (fun _ hk => hk.elim) ?aF ?aO ?aB ?aS ?aL ?_; (case aP => exact rfl); (case aB => exact (by repeat (first | (with_reducible first | exact HB.out | apply below_alloc | apply pw_below_drewN | apply below_drew1) | exact HB.out))); (case aF => exact (fun k_ hk => Kd.fresh' (Kd.R_lt (by (with_reducible repeat (first | apply Kd.R_alloc | apply Kd.R_drewN | apply Kd.R_drew)); exact HO_4.out)) k_ hk)); (case aO => exact (by (with_reducible repeat (first | apply Kd.R_alloc | apply Kd.R_drewN | apply Kd.R_drew)); exact HO_3.out)); (case aS => exact (below_size (by repeat (first | (with_reducible first | exact HB.out | apply below_alloc | apply pw_below_drewN | apply below_drew1) | exact HB.out)))); (case aL => have := LMc27.out; omega); intro v128 w29 ho hb hg hat; rw [← Ny127.out] at ho; have n0_ := Aside0.mk (Kd.R_after (ok := (fun _ => True)) (by (with_reducible repeat (first | apply Kd.R_alloc | apply Kd.R_drewN | apply Kd.R_drew)); exact Kd.R_mono HO_4.out (fun _ hk => ⟨trivial, hk⟩)) hg hat); have n1_ := Aside0.mk (hb); have n2_ := Aside0.mk (ho); clear HO_4; clear HB; clear HO_3; have HO_4 := n0_; have HB := n1_; have HO129 := n2_; clear n0_ n1_ n2_; clear ho hb hg hat))
                go_roundg k1
                case measure => have := HK1.out; omega
                case rel => exact ⟨(y127), (wrap64 (x5_1 + 1)), (by first | rfl | (simp; done) | (simp [*]; done)), H', ⟨by have := HK1.out; omega⟩, ⟨by (with_reducible repeat (first | apply Kd.R_alloc | apply Kd.R_drewN | apply Kd.R_drew)); (first | exact HO129.out | (have z_ := HO129.out; simp only [own_map] at z_ ⊢; exact z_))⟩, ⟨by (with_reducible repeat (first | apply Kd.R_alloc | apply Kd.R_drewN | apply Kd.R_drew)); exact Kd.R_mono HO_4.out (fun _ hk => hk.2)⟩, ⟨by repeat (first | (with_reducible first | exact HB.out | apply below_alloc | apply pw_below_drewN | apply below_drew1) | exact HB.out)⟩⟩
              · rw [if_neg c27] at H
                exact absurd H (by simp)
        · rw [if_neg c5] at H
          exact absurd H (by simp)
      · rw [if_neg c4] at H
        have c4b0 : decide (x5_1 < (t113.length : Int)) = false := decide_eq_false c4
        clear c4
        have H' := Aside0.mk H
        clear H
        obtain ⟨Ao30, co30, eo30⟩ := Kd.R_slice HO_4.out
        subst eo30
        go_wp2
        try simp only [Act.put, List.setIfInBounds_toArray, List.set_cons_succ, List.set_cons_zero]
        go_loopg [6, 7] k1 (fun kq v6 v7 w' => ∃ (x6_2 : ByteArray) (x7_2 : Int), v6 = .string x6_2 ∧ v7 = .int .i64 x7_2 ∧ Aside0 (spec_pathClean.l1 kq a0 x3_1 x6_2 x7_2 = some r) ∧ Aside0 (kq ≤ k1) ∧ Aside0 (Kd.R Kd.string 9 w' w.heap.size (fun _ => True) u3 x3_1) ∧ Aside0 (Below w.heap.size w w'))
        case atStart => exact ⟨((⟨#[]⟩ : ByteArray)), (0), (by first | rfl | (simp; done) | (simp [*]; done)), (by first | rfl | (simp; done) | (simp [*]; done)), H', ⟨Nat.le_refl _⟩, ⟨by (with_reducible repeat (first | apply Kd.R_alloc | apply Kd.R_drewN | apply Kd.R_drew)); exact Kd.R_mono HO_3.out (fun _ hk => trivial)⟩, ⟨by repeat (first | (with_reducible first | exact HB.out | apply below_alloc | apply pw_below_drewN | apply below_drew1) | exact HB.out)⟩⟩
        case round =>
          clear H'
          try clear c1
          try clear p1
          try clear q1
          try clear hx1
          try clear c2
          try clear p2
          try clear q2
          try clear c3
          try clear c4
          try clear c4b0
          try clear c5
          try clear c5b0
          try clear c6
          try clear c6b0
          try clear c6b1
          try clear p6
          try clear c8
          try clear c8b0
          try clear c8b1
          try clear c11
          try clear c11b0
          try clear c11b1
          try clear p11
          try clear q11
          try clear hx11
          try clear p12
          try clear q12
          try clear hx12
          try clear c13
          try clear c13b0
          try clear c14
          try clear c14b0
          try clear c17
          try clear c19
          try clear c19b0
          try clear c19b1
          try clear c20
          try clear c20b0
          try clear c20b1
          try clear q22
          try clear c24
          try clear c25
          try clear c27
          try clear hx116_0
          try clear hx117_0
          try clear hx118_0
          try clear hx126_0
          try clear p1
          try clear p11
          try clear p116
          try clear p117
          try clear p118
          try clear p126
          try clear p2
          try clear p6
          try clear q1
          try clear q11
          try clear q116
          try clear q117
          try clear q118
          try clear q126
          try clear q22
          obtain ⟨x6_2, x7_2, rfl, rfl, HA, HK2, HO_3, HB⟩ := hrel
          cases gk with
          | zero => exact absurd HA.out (by simp [spec_pathClean.l1])
          | succ k2 =>
            have H := HA.out
            clear HA
            simp only [spec_pathClean.l1] at H
            by_cases c31 : x7_2 < (x3_1.length : Int)
            · rw [if_pos c31] at H
              have c31b0 : decide (x7_2 < (x3_1.length : Int)) = true := decide_eq_true c31
              clear c31
              by_cases c32 : x7_2 > 0
              · rw [if_pos c32] at H
                have c32b0 : decide (0 < x7_2) = true := decide_eq_true c32
                clear c32
                by_cases c33 : x6_2.size + 1 ≤ 9223372036854775807
                · rw [if_pos c33] at H
                  have c33b0 := eq_true c33
                  have c33b1 : decide (x6_2.size + 1 ≤ 9223372036854775807) = true := decide_eq_true c33
                  try have c33b2 : (9223372036854775807 < x6_2.size + 1) = False := eq_false (Nat.not_lt.2 c33)
                  by_cases c34 : 0 ≤ x7_2
                  · rw [if_pos c34] at H
                    have c34b0 : decide (0 ≤ x7_2) = true := decide_eq_true c34
                    clear c34
                    by_cases c35 : (x6_2 ++ (⟨#[47]⟩ : ByteArray)).size + (rdOf ByteArray.empty x3_1 x7_2).size ≤ 9223372036854775807
                    · rw [if_pos c35] at H
                      have c35b0 := eq_true c35
                      have c35b1 : decide ((x6_2 ++ (⟨#[47]⟩ : ByteArray)).size + (rdOf ByteArray.empty x3_1 x7_2).size ≤ 9223372036854775807) = true := decide_eq_true c35
                      try have c35b2 : (9223372036854775807 < (x6_2 ++ (⟨#[47]⟩ : ByteArray)).size + (rdOf ByteArray.empty x3_1 x7_2).size) = False := eq_false (Nat.not_lt.2 c35)
                      try (have c35n := c35; simp only [ByteArray.size_append, ByteArray.size, List.size_toArray, List.length_cons, List.length_nil, Nat.zero_add, Nat.reduceAdd] at c35n; simp at c35n; have c35n0 := eq_true c35n; have c35n1 := eq_false (Nat.not_lt.2 c35n); have c35n2 := decide_eq_true c35n)
                      have H' := Aside0.mk H
                      clear H
                      obtain ⟨Ao36, co36, eo36⟩ := Kd.R_slice HO_3.out
                      subst eo36
                      have p130 : 0 ≤ (x7_2 : Int) := of_decide_eq_true (by first | (with_reducible assumption) | assumption)
                      have q130 : x7_2 < (x3_1.length : Int) := of_decide_eq_true (by first | (with_reducible assumption) | assumption)
                      obtain ⟨ad130, e130, hx130_0⟩ := Kd.at_string (Kd.R_reads' HO_3.out).2.2 x7_2 p130 q130
                      cases e130
                      replace p130 := eq_true p130
                      replace q130 := eq_true q130
                      go_wp2
                      go_roundg k2
                      case measure => have := HK1.out; have := HK2.out; omega
                      case rel => exact ⟨((x6_2 ++ (⟨#[47]⟩ : ByteArray)) ++ (rdOf ByteArray.empty x3_1 x7_2)), (wrap64 (x7_2 + 1)), (by first | rfl | (simp; done) | (simp [*]; done)), (by first | rfl | (simp; done) | (simp [*]; done)), H', ⟨by have := HK1.out; have := HK2.out; omega⟩, ⟨by (with_reducible repeat (first | apply Kd.R_alloc | apply Kd.R_drewN | apply Kd.R_drew)); (first | exact HO_3.out | (have z_ := HO_3.out; simp only [own_map] at z_ ⊢; exact z_))⟩, ⟨by repeat (first | (with_reducible first | exact HB.out | apply below_alloc | apply pw_below_drewN | apply below_drew1) | exact HB.out)⟩⟩
                    · rw [if_neg c35] at H
                      exact absurd H (by simp)
                  · rw [if_neg c34] at H
                    exact absurd H (by simp)
                · rw [if_neg c33] at H
                  exact absurd H (by simp)
              · rw [if_neg c32] at H
                have c32b0 : decide (0 < x7_2) = false := decide_eq_false c32
                clear c32
                by_cases c37 : 0 ≤ x7_2
                · rw [if_pos c37] at H
                  have c37b0 : decide (0 ≤ x7_2) = true := decide_eq_true c37
                  clear c37
                  by_cases c38 : x6_2.size + (rdOf ByteArray.empty x3_1 x7_2).size ≤ 9223372036854775807
                  · rw [if_pos c38] at H
                    have c38b0 := eq_true c38
                    have c38b1 : decide (x6_2.size + (rdOf ByteArray.empty x3_1 x7_2).size ≤ 9223372036854775807) = true := decide_eq_true c38
                    try have c38b2 : (9223372036854775807 < x6_2.size + (rdOf ByteArray.empty x3_1 x7_2).size) = False := eq_false (Nat.not_lt.2 c38)
                    have H' := Aside0.mk H
                    clear H
                    obtain ⟨Ao39, co39, eo39⟩ := Kd.R_slice HO_3.out
                    subst eo39
                    have p131 : 0 ≤ (x7_2 : Int) := of_decide_eq_true (by first | (with_reducible assumption) | assumption)
                    have q131 : x7_2 < (x3_1.length : Int) := of_decide_eq_true (by first | (with_reducible assumption) | assumption)
                    obtain ⟨ad131, e131, hx131_0⟩ := Kd.at_string (Kd.R_reads' HO_3.out).2.2 x7_2 p131 q131
                    cases e131
                    replace p131 := eq_true p131
                    replace q131 := eq_true q131
                    go_wp2
                    go_roundg k2
                    case measure => have := HK1.out; have := HK2.out; omega
                    case rel => exact ⟨(x6_2 ++ (rdOf ByteArray.empty x3_1 x7_2)), (wrap64 (x7_2 + 1)), (by first | rfl | (simp; done) | (simp [*]; done)), (by first | rfl | (simp; done) | (simp [*]; done)), H', ⟨by have := HK1.out; have := HK2.out; omega⟩, ⟨by (with_reducible repeat (first | apply Kd.R_alloc | apply Kd.R_drewN | apply Kd.R_drew)); (first | exact HO_3.out | (have z_ := HO_3.out; simp only [own_map] at z_ ⊢; exact z_))⟩, ⟨by repeat (first | (with_reducible first | exact HB.out | apply below_alloc | apply pw_below_drewN | apply below_drew1) | exact HB.out)⟩⟩
                  · rw [if_neg c38] at H
                    exact absurd H (by simp)
                · rw [if_neg c37] at H
                  exact absurd H (by simp)
            · rw [if_neg c31] at H
              have c31b0 : decide (x7_2 < (x3_1.length : Int)) = false := decide_eq_false c31
              clear c31
              replace H := Option.bind_eq_some_iff.mp H
              obtain ⟨t132, A400, H⟩ := H
              replace H : (if t132 = true then (if 1 + x6_2.size ≤ 9223372036854775807 then (some ((⟨#[47]⟩ : ByteArray) ++ x6_2)) else (none)) else (if x6_2.toList = ([] : List UInt8) then (some (⟨#[46]⟩ : ByteArray)) else (some x6_2))) = some r := H
              have A40 := Aside0.mk A400
              clear A400
              by_cases c41 : t132 = true
              · subst c41
                have H1 : (if 1 + x6_2.size ≤ 9223372036854775807 then (some ((⟨#[47]⟩ : ByteArray) ++ x6_2)) else (none)) = some r := by rw [if_pos rfl] at H; exact H
                clear H
                have H := H1
                clear H1
                by_cases c42 : 1 + x6_2.size ≤ 9223372036854775807
                · rw [if_pos c42] at H
                  have c42b0 := eq_true c42
                  have c42b1 : decide (1 + x6_2.size ≤ 9223372036854775807) = true := decide_eq_true c42
                  try have c42b2 : (9223372036854775807 < 1 + x6_2.size) = False := eq_false (Nat.not_lt.2 c42)
                  obtain rfl := Option.some.inj H
                  obtain ⟨Ao43, co43, eo43⟩ := Kd.R_slice HO_3.out
                  subst eo43
                  go_wp2_with (first | ((with_reducible refine gate_callee (f := 36) rfl ?_); refine goesL_ (some 77) rfl rfl Try.func36 (by kernel_rfl) rfl #[.string a0] rfl (by (try simp only [List.map_toArray, List.map_cons, List.map_nil]); first | done | rfl | (simp only [List.length_drop, List.length_take]; rfl)) ?_; (with_reducible refine (spec_pathAhead.calls a0 true _ A40.out).mono ?_); rintro e w' ⟨rfl, ⟨nd, rfl⟩⟩; refine ⟨_, rfl, ?_⟩))
                  go_ret
                  exact ⟨by first | rfl | (simp [errW_none, errW_some] <;> rfl) | (simp [*, errW_none, errW_some] <;> rfl), by repeat (first | (with_reducible first | exact HB.out | apply below_alloc | apply pw_below_drewN | apply below_drew1) | exact HB.out)⟩
                · rw [if_neg c42] at H
                  exact absurd H (by simp)
              · replace c41 := Bool.eq_false_iff.mpr c41
                subst c41
                have H1 : (if x6_2.toList = ([] : List UInt8) then (some (⟨#[46]⟩ : ByteArray)) else (some x6_2)) = some r := by rw [if_neg (show ¬ (false = true) by decide)] at H; exact H
                clear H
                have H := H1
                clear H1
                by_cases c44 : x6_2.toList = ([] : List UInt8)
                · rw [if_pos c44] at H
                  have c44b0 : (x6_2.toList == ([] : List UInt8)) = true := beq_iff_eq.mpr c44
                  have c44b1 : (x6_2.toList != ([] : List UInt8)) = false := bne_eq_false_iff_eq.mpr c44
                  clear c44
                  obtain rfl := Option.some.inj H
                  obtain ⟨Ao45, co45, eo45⟩ := Kd.R_slice HO_3.out
                  subst eo45
                  go_wp2_with (first | ((with_reducible refine gate_callee (f := 36) rfl ?_); refine goesL_ (some 77) rfl rfl Try.func36 (by kernel_rfl) rfl #[.string a0] rfl (by (try simp only [List.map_toArray, List.map_cons, List.map_nil]); first | done | rfl | (simp only [List.length_drop, List.length_take]; rfl)) ?_; (with_reducible refine (spec_pathAhead.calls a0 false _ A40.out).mono ?_); rintro e w' ⟨rfl, ⟨nd, rfl⟩⟩; refine ⟨_, rfl, ?_⟩))
                  go_ret
                  exact ⟨by first | rfl | (simp [errW_none, errW_some] <;> rfl) | (simp [*, errW_none, errW_some] <;> rfl), by repeat (first | (with_reducible first | exact HB.out | apply below_alloc | apply pw_below_drewN | apply below_drew1) | exact HB.out)⟩
                · rw [if_neg c44] at H
                  have c44b0 : (x6_2.toList == ([] : List UInt8)) = false := beq_eq_false_iff_ne.mpr c44
                  have c44b1 : (x6_2.toList != ([] : List UInt8)) = true := bne_iff_ne.mpr c44
                  obtain rfl := Option.some.inj H
                  obtain ⟨Ao46, co46, eo46⟩ := Kd.R_slice HO_3.out
                  subst eo46
                  go_wp2_with (first | ((with_reducible refine gate_callee (f := 36) rfl ?_); refine goesL_ (some 77) rfl rfl Try.func36 (by kernel_rfl) rfl #[.string a0] rfl (by (try simp only [List.map_toArray, List.map_cons, List.map_nil]); first | done | rfl | (simp only [List.length_drop, List.length_take]; rfl)) ?_; (with_reducible refine (spec_pathAhead.calls a0 false _ A40.out).mono ?_); rintro e w' ⟨rfl, ⟨nd, rfl⟩⟩; refine ⟨_, rfl, ?_⟩))
                  go_ret
                  exact ⟨by first | rfl | (simp [errW_none, errW_some] <;> rfl) | (simp [*, errW_none, errW_some] <;> rfl), by repeat (first | (with_reducible first | exact HB.out | apply below_alloc | apply pw_below_drewN | apply below_drew1) | exact HB.out)⟩

/-! ### spec_AbsPathify: function 32 -/
def spec_AbsPathify.j0 : Nat → ByteArray → ByteArray → Bool → Option (ByteArray)
  | 0, _, _, _ => none
  | k + 1, x0, x1, x9 => if x9 = true then (some (⟨#[]⟩ : ByteArray)) else (if x0.toList = ([] : List UInt8) then ((spec_pathClean.f k x1).bind fun t135 => (some t135)) else (if x1.toList = ([] : List UInt8) then ((spec_pathClean.f k x0).bind fun t136 => (some t136)) else (if x0.size + 1 ≤ 9223372036854775807 then (if (x0 ++ (⟨#[47]⟩ : ByteArray)).size + x1.size ≤ 9223372036854775807 then ((spec_pathClean.f k ((x0 ++ (⟨#[47]⟩ : ByteArray)) ++ x1)).bind fun t137 => (some t137)) else (none)) else (none))))
def spec_AbsPathify.f (k : Nat) (a0 : ByteArray) (a1 : ByteArray) : Option (ByteArray) := (spec_pathAhead.f a1).bind fun t133 => (if t133 = true then ((spec_pathClean.f k a1).bind fun t134 => (some t134)) else (if a0.toList = ([] : List UInt8) then (spec_AbsPathify.j0 k a0 a1 (a1.toList == ([] : List UInt8))) else (spec_AbsPathify.j0 k a0 a1 false)))
theorem spec_AbsPathify.mono_l : ∀ k, (∀ y0 y1 y2, LeO (spec_AbsPathify.j0 k y0 y1 y2) (spec_AbsPathify.j0 (k + 1) y0 y1 y2))
  | 0 => fun _ _ _ r h => by simp [spec_AbsPathify.j0] at h
  | k + 1 => by
    have ih0 := spec_AbsPathify.mono_l k
    · intro y0 y1 y2
      unfold spec_AbsPathify.j0
      repeat' first
      | (with_reducible exact ih0 _ _ _)
      | (with_reducible exact spec_pathClean.mono _ _)
      | (with_reducible exact LeO.refl _)
      | (with_reducible exact LeO.none _)
      | (with_reducible refine LeO.ite ?_ ?_)
      | (with_reducible refine LeO.bind ?_ (fun _ => ?_))
      | exact ih0 _ _ _
      | exact spec_pathClean.mono _ _
      | exact LeO.none _
      | refine LeO.ite ?_ ?_
      | refine LeO.bind ?_ (fun _ => ?_)
theorem spec_AbsPathify.mono : ∀ a0 a1 k, LeO (spec_AbsPathify.f k a0 a1) (spec_AbsPathify.f (k + 1) a0 a1) := by
  intro a0 a1 k
  have ih0 := spec_AbsPathify.mono_l k
  unfold spec_AbsPathify.f
  repeat' first
      | (with_reducible exact ih0 _ _ _)
      | (with_reducible exact spec_pathClean.mono _ _)
      | (with_reducible exact LeO.refl _)
      | (with_reducible exact LeO.none _)
      | (with_reducible refine LeO.ite ?_ ?_)
      | (with_reducible refine LeO.bind ?_ (fun _ => ?_))
      | exact ih0 _ _ _
      | exact spec_pathClean.mono _ _
      | exact LeO.none _
      | refine LeO.ite ?_ ?_
      | refine LeO.bind ?_ (fun _ => ?_)
set_option maxHeartbeats 8000000 in
set_option maxRecDepth 100000 in
theorem spec_AbsPathify.calls (k : Nat) (a0 : ByteArray) (a1 : ByteArray) (r : ByteArray) (w : World) (h : spec_AbsPathify.f k a0 a1 = some r) :
    Calls Try.prog 32 #[.string a0, .string a1] w fun e w' => e = .returned (.string r) ∧ Below w.heap.size w w' := by
  have HB := Aside0.mk (Below.refl w.heap.size w)
  have H : ((spec_pathAhead.f a1).bind fun t133 => (if t133 = true then ((spec_pathClean.f k a1).bind fun t134 => (some t134)) else (if a0.toList = ([] : List UInt8) then (spec_AbsPathify.j0 k a0 a1 (a1.toList == ([] : List UInt8))) else (spec_AbsPathify.j0 k a0 a1 false)))) = some r := h
  clear h
  replace H := Option.bind_eq_some_iff.mp H
  obtain ⟨t133, A30, H⟩ := H
  replace H : (if t133 = true then ((spec_pathClean.f k a1).bind fun t134 => (some t134)) else (if a0.toList = ([] : List UInt8) then (spec_AbsPathify.j0 k a0 a1 (a1.toList == ([] : List UInt8))) else (spec_AbsPathify.j0 k a0 a1 false))) = some r := H
  have A3 := Aside0.mk A30
  clear A30
  by_cases c4 : t133 = true
  · subst c4
    have H1 : ((spec_pathClean.f k a1).bind fun t134 => (some t134)) = some r := by rw [if_pos rfl] at H; exact H
    clear H
    have H := H1
    clear H1
    replace H := Option.bind_eq_some_iff.mp H
    obtain ⟨t134, A50, H⟩ := H
    replace H : (some t134) = some r := H
    have A5 := Aside0.mk A50
    clear A50
    obtain rfl := Option.some.inj H
    go_enter Try.func32, Try.ntmps32
    go_wp2_with (first | ((with_reducible refine gate_callee (f := 36) rfl ?_); refine goesL_ (some 6) rfl rfl Try.func36 (by kernel_rfl) rfl #[.string a1] rfl (by (try simp only [List.map_toArray, List.map_cons, List.map_nil]); first | done | rfl | (simp only [List.length_drop, List.length_take]; rfl)) ?_; (with_reducible refine (spec_pathAhead.calls a1 true _ A3.out).mono ?_); rintro e w' ⟨rfl, ⟨nd, rfl⟩⟩; refine ⟨_, rfl, ?_⟩) | ((with_reducible refine gate_callee (f := 45) rfl ?_); refine goesL_ (some 8) rfl rfl Try.func45 (by kernel_rfl) rfl #[.string a1] rfl (by (try simp only [List.map_toArray, List.map_cons, List.map_nil]); first | done | rfl | (simp only [List.length_drop, List.length_take]; rfl)) ?_; (with_reducible refine (spec_pathClean.calls k a1 t134 _ A5.out).mono ?_); rintro e w6 ⟨rfl, hb⟩; refine ⟨_, rfl, ?_⟩; have n0_ := Aside0.mk (below_step (by repeat (first | (with_reducible first | exact HB.out | apply below_alloc | apply pw_below_drewN | apply below_drew1) | exact HB.out)) hb); clear HB; have HB := n0_; clear n0_; (try clear hb); (try clear hb2); (try clear hk); (try clear hi)))
    go_ret
    exact ⟨by first | rfl | (simp [errW_none, errW_some] <;> rfl) | (simp [*, errW_none, errW_some] <;> rfl), by repeat (first | (with_reducible first | exact HB.out | apply below_alloc | apply pw_below_drewN | apply below_drew1) | exact HB.out)⟩
  · replace c4 := Bool.eq_false_iff.mpr c4
    subst c4
    have H1 : (if a0.toList = ([] : List UInt8) then (spec_AbsPathify.j0 k a0 a1 (a1.toList == ([] : List UInt8))) else (spec_AbsPathify.j0 k a0 a1 false)) = some r := by rw [if_neg (show ¬ (false = true) by decide)] at H; exact H
    clear H
    have H := H1
    clear H1
    have HC7 := Aside0.mk H
    clear H
    go_enter Try.func32, Try.ntmps32
    go_upto_region 3 with (first | ((with_reducible refine gate_callee (f := 36) rfl ?_); refine goesL_ (some 6) rfl rfl Try.func36 (by kernel_rfl) rfl #[.string a1] rfl (by (try simp only [List.map_toArray, List.map_cons, List.map_nil]); first | done | rfl | (simp only [List.length_drop, List.length_take]; rfl)) ?_; (with_reducible refine (spec_pathAhead.calls a1 false _ A3.out).mono ?_); rintro e w' ⟨rfl, ⟨nd, rfl⟩⟩; refine ⟨_, rfl, ?_⟩))
    (try simp only [Act.put, List.setIfInBounds_toArray, List.set_cons_zero, List.set_cons_succ])
    go_cut [9] (fun v9 wc => ∃ (kq : Nat) (x9_6 : Bool), v9 = .bool x9_6 ∧ Aside0 (spec_AbsPathify.j0 kq a0 a1 x9_6 = some r) ∧ Aside0 (kq ≤ k) ∧ Aside0 (Below w.heap.size w wc))
    case first =>
      have H := HC7.out
      clear HC7
      by_cases c8 : a0.toList = ([] : List UInt8)
      · rw [if_pos c8] at H
        have c8b0 : (a0.toList == ([] : List UInt8)) = true := beq_iff_eq.mpr c8
        have c8b1 : (a0.toList != ([] : List UInt8)) = false := bne_eq_false_iff_eq.mpr c8
        clear c8
        (first | rw [c8b0] | (simp only [i64_w, i32_w]; rw [c8b0]) | skip)
        have H' := Aside0.mk H
        clear H
        go_wp2
        go_meet
        case rel => exact ⟨_, ((a1.toList == ([] : List UInt8))), (by first | rfl | (simp; done) | (simp [*]; done)), H', ⟨by first | omega | exact Nat.le_refl _⟩, ⟨by repeat (first | (with_reducible first | exact HB.out | apply below_alloc | apply pw_below_drewN | apply below_drew1) | exact HB.out)⟩⟩
      · rw [if_neg c8] at H
        have c8b0 : (a0.toList == ([] : List UInt8)) = false := beq_eq_false_iff_ne.mpr c8
        have c8b1 : (a0.toList != ([] : List UInt8)) = true := bne_iff_ne.mpr c8
        (first | rw [c8b0] | (simp only [i64_w, i32_w]; rw [c8b0]) | skip)
        have H' := Aside0.mk H
        clear H
        go_wp2
        go_meet
        case rel => exact ⟨_, (false), (by first | rfl | (simp; done) | (simp [*]; done)), H', ⟨by first | omega | exact Nat.le_refl _⟩, ⟨by repeat (first | (with_reducible first | exact HB.out | apply below_alloc | apply pw_below_drewN | apply below_drew1) | exact HB.out)⟩⟩
    case rest =>
      clear HC7
      try clear p2
      try clear c3
      try clear c4
      try clear c8
      try clear c8b0
      try clear c8b1
      obtain ⟨kq, x9_6, rfl, HA, HJ6, HB⟩ := hcut
      cases kq with
      | zero => exact absurd HA.out (by simp [spec_AbsPathify.j0])
      | succ kj6 =>
        have H := HA.out
        clear HA
        simp only [spec_AbsPathify.j0] at H
        by_cases c9 : x9_6 = true
        · subst c9
          have H1 : (some (⟨#[]⟩ : ByteArray)) = some r := by rw [if_pos rfl] at H; exact H
          clear H
          have H := H1
          clear H1
          obtain rfl := Option.some.inj H
          go_wp2
          go_ret
          exact ⟨by first | rfl | (simp [errW_none, errW_some] <;> rfl) | (simp [*, errW_none, errW_some] <;> rfl), by repeat (first | (with_reducible first | exact HB.out | apply below_alloc | apply pw_below_drewN | apply below_drew1) | exact HB.out)⟩
        · replace c9 := Bool.eq_false_iff.mpr c9
          subst c9
          have H1 : (if a0.toList = ([] : List UInt8) then ((spec_pathClean.f kj6 a1).bind fun t135 => (some t135)) else (if a1.toList = ([] : List UInt8) then ((spec_pathClean.f kj6 a0).bind fun t136 => (some t136)) else (if a0.size + 1 ≤ 9223372036854775807 then (if (a0 ++ (⟨#[47]⟩ : ByteArray)).size + a1.size ≤ 9223372036854775807 then ((spec_pathClean.f kj6 ((a0 ++ (⟨#[47]⟩ : ByteArray)) ++ a1)).bind fun t137 => (some t137)) else (none)) else (none)))) = some r := by rw [if_neg (show ¬ (false = true) by decide)] at H; exact H
          clear H
          have H := H1
          clear H1
          by_cases c10 : a0.toList = ([] : List UInt8)
          · rw [if_pos c10] at H
            have c10b0 : (a0.toList == ([] : List UInt8)) = true := beq_iff_eq.mpr c10
            have c10b1 : (a0.toList != ([] : List UInt8)) = false := bne_eq_false_iff_eq.mpr c10
            clear c10
            replace H := Option.bind_eq_some_iff.mp H
            obtain ⟨t135, A110, H⟩ := H
            replace H : (some t135) = some r := H
            have A11 := Aside0.mk A110
            clear A110
            obtain rfl := Option.some.inj H
            go_wp2_with (first | ((with_reducible refine gate_callee (f := 45) rfl ?_); refine goesL_ (some 20) rfl rfl Try.func45 (by kernel_rfl) rfl #[.string a1] rfl (by (try simp only [List.map_toArray, List.map_cons, List.map_nil]); first | done | rfl | (simp only [List.length_drop, List.length_take]; rfl)) ?_; (with_reducible refine (spec_pathClean.calls kj6 a1 t135 _ A11.out).mono ?_); rintro e w12 ⟨rfl, hb⟩; refine ⟨_, rfl, ?_⟩; have n0_ := Aside0.mk (below_step (by repeat (first | (with_reducible first | exact HB.out | apply below_alloc | apply pw_below_drewN | apply below_drew1) | exact HB.out)) hb); clear HB; have HB := n0_; clear n0_; (try clear hb); (try clear hb2); (try clear hk); (try clear hi)))
            go_ret
            exact ⟨by first | rfl | (simp [errW_none, errW_some] <;> rfl) | (simp [*, errW_none, errW_some] <;> rfl), by repeat (first | (with_reducible first | exact HB.out | apply below_alloc | apply pw_below_drewN | apply below_drew1) | exact HB.out)⟩
          · rw [if_neg c10] at H
            have c10b0 : (a0.toList == ([] : List UInt8)) = false := beq_eq_false_iff_ne.mpr c10
            have c10b1 : (a0.toList != ([] : List UInt8)) = true := bne_iff_ne.mpr c10
            by_cases c13 : a1.toList = ([] : List UInt8)
            · rw [if_pos c13] at H
              have c13b0 : (a1.toList == ([] : List UInt8)) = true := beq_iff_eq.mpr c13
              have c13b1 : (a1.toList != ([] : List UInt8)) = false := bne_eq_false_iff_eq.mpr c13
              clear c13
              replace H := Option.bind_eq_some_iff.mp H
              obtain ⟨t136, A140, H⟩ := H
              replace H : (some t136) = some r := H
              have A14 := Aside0.mk A140
              clear A140
              obtain rfl := Option.some.inj H
              go_wp2_with (first | ((with_reducible refine gate_callee (f := 45) rfl ?_); refine goesL_ (some 25) rfl rfl Try.func45 (by kernel_rfl) rfl #[.string a0] rfl (by (try simp only [List.map_toArray, List.map_cons, List.map_nil]); first | done | rfl | (simp only [List.length_drop, List.length_take]; rfl)) ?_; (with_reducible refine (spec_pathClean.calls kj6 a0 t136 _ A14.out).mono ?_); rintro e w15 ⟨rfl, hb⟩; refine ⟨_, rfl, ?_⟩; have n0_ := Aside0.mk (below_step (by repeat (first | (with_reducible first | exact HB.out | apply below_alloc | apply pw_below_drewN | apply below_drew1) | exact HB.out)) hb); clear HB; have HB := n0_; clear n0_; (try clear hb); (try clear hb2); (try clear hk); (try clear hi)))
              go_ret
              exact ⟨by first | rfl | (simp [errW_none, errW_some] <;> rfl) | (simp [*, errW_none, errW_some] <;> rfl), by repeat (first | (with_reducible first | exact HB.out | apply below_alloc | apply pw_below_drewN | apply below_drew1) | exact HB.out)⟩
            · rw [if_neg c13] at H
              have c13b0 : (a1.toList == ([] : List UInt8)) = false := beq_eq_false_iff_ne.mpr c13
              have c13b1 : (a1.toList != ([] : List UInt8)) = true := bne_iff_ne.mpr c13
              by_cases c16 : a0.size + 1 ≤ 9223372036854775807
              · rw [if_pos c16] at H
                have c16b0 := eq_true c16
                have c16b1 : decide (a0.size + 1 ≤ 9223372036854775807) = true := decide_eq_true c16
                try have c16b2 : (9223372036854775807 < a0.size + 1) = False := eq_false (Nat.not_lt.2 c16)
                by_cases c17 : (a0 ++ (⟨#[47]⟩ : ByteArray)).size + a1.size ≤ 9223372036854775807
                · rw [if_pos c17] at H
                  have c17b0 := eq_true c17
                  have c17b1 : decide ((a0 ++ (⟨#[47]⟩ : ByteArray)).size + a1.size ≤ 9223372036854775807) = true := decide_eq_true c17
                  try have c17b2 : (9223372036854775807 < (a0 ++ (⟨#[47]⟩ : ByteArray)).size + a1.size) = False := eq_false (Nat.not_lt.2 c17)
                  try (have c17n := c17; simp only [ByteArray.size_append, ByteArray.size, List.size_toArray, List.length_cons, List.length_nil, Nat.zero_add, Nat.reduceAdd] at c17n; simp at c17n; have c17n0 := eq_true c17n; have c17n1 := eq_false (Nat.not_lt.2 c17n); have c17n2 := decide_eq_true c17n)
                  replace H := Option.bind_eq_some_iff.mp H
                  obtain ⟨t137, A180, H⟩ := H
                  replace H : (some t137) = some r := H
                  have A18 := Aside0.mk A180
                  clear A180
                  obtain rfl := Option.some.inj H
                  go_wp2_with (first | ((with_reducible refine gate_callee (f := 45) rfl ?_); refine goesL_ (some 30) rfl rfl Try.func45 (by kernel_rfl) rfl #[.string ((a0 ++ (⟨#[47]⟩ : ByteArray)) ++ a1)] rfl (by (try simp only [List.map_toArray, List.map_cons, List.map_nil]); first | done | rfl | (simp only [List.length_drop, List.length_take]; rfl)) ?_; (with_reducible refine (spec_pathClean.calls kj6 ((a0 ++ (⟨#[47]⟩ : ByteArray)) ++ a1) t137 _ A18.out).mono ?_); rintro e w19 ⟨rfl, hb⟩; refine ⟨_, rfl, ?_⟩; have n0_ := Aside0.mk (below_step (by repeat (first | (with_reducible first | exact HB.out | apply below_alloc | apply pw_below_drewN | apply below_drew1) | exact HB.out)) hb); clear HB; have HB := n0_; clear n0_; (try clear hb); (try clear hb2); (try clear hk); (try clear hi)))
                  go_ret
                  exact ⟨by first | rfl | (simp [errW_none, errW_some] <;> rfl) | (simp [*, errW_none, errW_some] <;> rfl), by repeat (first | (with_reducible first | exact HB.out | apply below_alloc | apply pw_below_drewN | apply below_drew1) | exact HB.out)⟩
                · rw [if_neg c17] at H
                  exact absurd H (by simp)
              · rw [if_neg c16] at H
                exact absurd H (by simp)

end Go.Proofs.Ytckfbpgjegbmlaa.PFnAbsPath
