/- Printed by a program of this session (a printer turned to take contracts that were proved by hand): functions with the answers of the Go functions, and proofs that the code comes to these answers; no condition beyond what each theorem names. -/
import Derived.Test.YtckfbpgjegbmlaaPFnSamePathx0
import Derived.Test.YtckfbpgjegbmlaaPFnSamePathx1
namespace Go.Proofs.Ytckfbpgjegbmlaa.PFnSamePath
open Go.RowKit Go.Proofs.YtckfbpgjegbmlaaW.PrintWords Go.Proofs.YtckfbpgjegbmlaaW.PrintLast Go.Proofs.YtckfbpgjegbmlaaW.PrintMore
attribute [local go_sem] max2_int min2_int max_two min_two max_three min_three max_four min_four   -- for this text's walks alone
set_option linter.unusedVariables false
set_option linter.unusedSimpArgs false

/-! ### spec_FieldsSlash: function 54 -/
mutual
def spec_FieldsSlash.l0 : Nat → ByteArray → List ByteArray → Int → Int → Option (List ByteArray)
  | 0, _, _, _, _ => none
  | k + 1, x0, x3, x4, x5 => if x5 ≤ (x0.size : Int) then (if x5 = (x0.size : Int) then (spec_FieldsSlash.j1 k x0 x3 x4 x5 true) else (if 0 ≤ x5 then (if x5 < (x0.size : Int) then (spec_FieldsSlash.j1 k x0 x3 x4 x5 ((bt x0 x5) == 47)) else (none)) else (none))) else (some x3)
def spec_FieldsSlash.j1 : Nat → ByteArray → List ByteArray → Int → Int → Bool → Option (List ByteArray)
  | 0, _, _, _, _, _ => none
  | k + 1, x0, x3, x4, x5, x21 => if x21 = true then (if x5 > x4 then (if 0 ≤ x4 then (if x4 ≤ x5 then (if x5 ≤ (x0.size : Int) then (if x3.length < 8796093022208 then (spec_FieldsSlash.l0 k x0 (x3 ++ [x0.extract (x4 : Int).toNat (x5 : Int).toNat]) (wrap64 (x5 + 1)) (wrap64 (x5 + 1))) else (none)) else (none)) else (none)) else (none)) else (spec_FieldsSlash.l0 k x0 x3 (wrap64 (x5 + 1)) (wrap64 (x5 + 1)))) else (spec_FieldsSlash.l0 k x0 x3 x4 (wrap64 (x5 + 1)))
end
def spec_FieldsSlash.f (k : Nat) (a0 : ByteArray) : Option (List ByteArray) := spec_FieldsSlash.l0 k a0 ([] : List ByteArray) 0 0
theorem spec_FieldsSlash.mono_l : ∀ k, (∀ y0 y1 y2 y3, LeO (spec_FieldsSlash.l0 k y0 y1 y2 y3) (spec_FieldsSlash.l0 (k + 1) y0 y1 y2 y3)) ∧ (∀ y0 y1 y2 y3 y4, LeO (spec_FieldsSlash.j1 k y0 y1 y2 y3 y4) (spec_FieldsSlash.j1 (k + 1) y0 y1 y2 y3 y4))
  | 0 => ⟨fun _ _ _ _ r h => by simp [spec_FieldsSlash.l0] at h, fun _ _ _ _ _ r h => by simp [spec_FieldsSlash.j1] at h⟩
  | k + 1 => by
    obtain ⟨ih0, ih1⟩ := spec_FieldsSlash.mono_l k
    refine ⟨?_, ?_⟩
    · intro y0 y1 y2 y3
      unfold spec_FieldsSlash.l0
      repeat' first
      | (with_reducible exact ih0 _ _ _ _)
      | (with_reducible exact ih1 _ _ _ _ _)
      | (with_reducible exact LeO.refl _)
      | (with_reducible exact LeO.none _)
      | (with_reducible refine LeO.ite ?_ ?_)
      | (with_reducible refine LeO.bind ?_ (fun _ => ?_))
      | exact ih0 _ _ _ _
      | exact ih1 _ _ _ _ _
      | exact LeO.none _
      | refine LeO.ite ?_ ?_
      | refine LeO.bind ?_ (fun _ => ?_)
    · intro y0 y1 y2 y3 y4
      unfold spec_FieldsSlash.j1
      repeat' first
      | (with_reducible exact ih0 _ _ _ _)
      | (with_reducible exact ih1 _ _ _ _ _)
      | (with_reducible exact LeO.refl _)
      | (with_reducible exact LeO.none _)
      | (with_reducible refine LeO.ite ?_ ?_)
      | (with_reducible refine LeO.bind ?_ (fun _ => ?_))
      | exact ih0 _ _ _ _
      | exact ih1 _ _ _ _ _
      | exact LeO.none _
      | refine LeO.ite ?_ ?_
      | refine LeO.bind ?_ (fun _ => ?_)
theorem spec_FieldsSlash.mono : ∀ a0 k, LeO (spec_FieldsSlash.f k a0) (spec_FieldsSlash.f (k + 1) a0) := by
  intro a0 k
  obtain ⟨ih0, ih1⟩ := spec_FieldsSlash.mono_l k
  unfold spec_FieldsSlash.f
  repeat' first
      | (with_reducible exact ih0 _ _ _ _)
      | (with_reducible exact ih1 _ _ _ _ _)
      | (with_reducible exact LeO.refl _)
      | (with_reducible exact LeO.none _)
      | (with_reducible refine LeO.ite ?_ ?_)
      | (with_reducible refine LeO.bind ?_ (fun _ => ?_))
      | exact ih0 _ _ _ _
      | exact ih1 _ _ _ _ _
      | exact LeO.none _
      | refine LeO.ite ?_ ?_
      | refine LeO.bind ?_ (fun _ => ?_)
set_option maxHeartbeats 8000000 in
set_option maxRecDepth 100000 in
theorem spec_FieldsSlash.calls (k : Nat) (a0 : ByteArray) (r : List ByteArray) (w : World) (h : spec_FieldsSlash.f k a0 = some r) :
    Calls Try.prog 54 #[.string a0] w fun e w' => ∃ v0_ : Value, e = .returned (v0_) ∧ Kd.R Kd.string 9 w' w.heap.size (fun _ => True) v0_ r ∧ Below w.heap.size w w' := by
  have HB := Aside0.mk (Below.refl w.heap.size w)
  have H : (spec_FieldsSlash.l0 k a0 ([] : List ByteArray) 0 0) = some r := h
  clear h
  have H' := Aside0.mk H
  clear H
  go_enter Try.func54, Try.ntmps54
  go_wp2
  try simp only [Act.put, List.setIfInBounds_toArray, List.set_cons_succ, List.set_cons_zero]
  go_loopg [3, 4, 5] k (fun kq v3 v4 v5 w' => ∃ (x3_1 : List ByteArray) (x4_1 : Int) (x5_1 : Int), v4 = .int .i64 x4_1 ∧ v5 = .int .i64 x5_1 ∧ Aside0 (spec_FieldsSlash.l0 kq a0 x3_1 x4_1 x5_1 = some r) ∧ Aside0 (kq ≤ k) ∧ Aside0 (Kd.R Kd.string 9 w' w.heap.size (fun _ => True) v3 x3_1) ∧ Aside0 (Below w.heap.size w w'))
  case atStart => exact ⟨(([] : List ByteArray)), (0), (0), (by first | rfl | (simp; done) | (simp [*]; done)), (by first | rfl | (simp; done) | (simp [*]; done)), H', ⟨Nat.le_refl _⟩, ⟨by first | exact Kd.R_nil _ _ _ _ _ | exact Kd.N_nil _ _ _ _ _ | exact Kd.V_nil _ _ _ _ _ | exact Kd.Q_nil _ _ _ _ _ | exact Kd.S_nil _ _ _ _ _⟩, ⟨by repeat (first | (with_reducible first | exact HB.out | apply below_alloc | apply pw_below_drewN | apply below_drew1) | exact HB.out)⟩⟩
  case round =>
    clear H'
    obtain ⟨x3_1, x4_1, x5_1, rfl, rfl, HA, HK1, HO_3, HB⟩ := hrel
    cases gk with
    | zero => exact absurd HA.out (by simp [spec_FieldsSlash.l0])
    | succ k1 =>
      have H := HA.out
      clear HA
      simp only [spec_FieldsSlash.l0] at H
      by_cases c2 : x5_1 ≤ (a0.size : Int)
      · rw [if_pos c2] at H
        have c2b0 : decide (x5_1 ≤ (a0.size : Int)) = true := decide_eq_true c2
        clear c2
        have HC3 := Aside0.mk H
        clear H
        go_upto_region 6 with (fail)
        go_cut [21] (fun v21 wc => ∃ (kq : Nat) (x21_2 : Bool), v21 = .bool x21_2 ∧ Aside0 (spec_FieldsSlash.j1 kq a0 x3_1 x4_1 x5_1 x21_2 = some r) ∧ Aside0 (kq ≤ k1) ∧ Aside0 (Kd.R Kd.string 9 wc w.heap.size (fun _ => True) u3 x3_1) ∧ Aside0 (Below w.heap.size w wc))
        case first =>
          have H := HC3.out
          clear HC3
          by_cases c4 : x5_1 = (a0.size : Int)
          · rw [if_pos c4] at H
            have c4b0 : (x5_1 == (a0.size : Int)) = true := beq_iff_eq.mpr c4
            have c4b1 : (x5_1 != (a0.size : Int)) = false := bne_eq_false_iff_eq.mpr c4
            clear c4
            (first | rw [c4b0] | (simp only [i64_w, i32_w]; rw [c4b0]) | skip)
            have H' := Aside0.mk H
            clear H
            go_wp2
            go_meet
            case rel => exact ⟨_, (true), (by first | rfl | (simp; done) | (simp [*]; done)), H', ⟨by have := HK1.out; first | omega | exact Nat.le_refl _⟩, ⟨by (with_reducible repeat (first | apply Kd.R_alloc | apply Kd.R_drewN | apply Kd.R_drew)); (first | exact HO_3.out | (have z_ := HO_3.out; simp only [own_map] at z_ ⊢; exact z_))⟩, ⟨by repeat (first | (with_reducible first | exact HB.out | apply below_alloc | apply pw_below_drewN | apply below_drew1) | exact HB.out)⟩⟩
          · rw [if_neg c4] at H
            have c4b0 : (x5_1 == (a0.size : Int)) = false := beq_eq_false_iff_ne.mpr c4
            have c4b1 : (x5_1 != (a0.size : Int)) = true := bne_iff_ne.mpr c4
            (first | rw [c4b0] | (simp only [i64_w, i32_w]; rw [c4b0]) | skip)
            by_cases c5 : 0 ≤ x5_1
            · rw [if_pos c5] at H
              have c5b0 : decide (0 ≤ x5_1) = true := decide_eq_true c5
              clear c5
              by_cases c6 : x5_1 < (a0.size : Int)
              · rw [if_pos c6] at H
                have c6b0 : decide (x5_1 < (a0.size : Int)) = true := decide_eq_true c6
                clear c6
                have H' := Aside0.mk H
                clear H
                have p7 : 0 ≤ (x5_1 : Int) := of_decide_eq_true (by first | (with_reducible assumption) | assumption)
                have q7 : x5_1 < (a0.size : Int) := of_decide_eq_true (by first | (with_reducible assumption) | assumption)
                have hx7 := bt_at a0 x5_1
                replace p7 := eq_true p7
                replace q7 := eq_true q7
                go_wp2
                go_meet
                case rel => exact ⟨_, (((bt a0 x5_1) == 47)), (by first | rfl | (simp; done) | (simp [*]; done)), H', ⟨by have := HK1.out; first | omega | exact Nat.le_refl _⟩, ⟨by (with_reducible repeat (first | apply Kd.R_alloc | apply Kd.R_drewN | apply Kd.R_drew)); (first | exact HO_3.out | (have z_ := HO_3.out; simp only [own_map] at z_ ⊢; exact z_))⟩, ⟨by repeat (first | (with_reducible first | exact HB.out | apply below_alloc | apply pw_below_drewN | apply below_drew1) | exact HB.out)⟩⟩
              · rw [if_neg c6] at H
                exact absurd H (by simp)
            · rw [if_neg c5] at H
              exact absurd H (by simp)
        case rest =>
          clear HC3
          try clear c2
          try clear c2b0
          try clear p2
          try clear c4
          try clear c4b0
          try clear c4b1
          try clear c5
          try clear c5b0
          try clear c6
          try clear c6b0
          try clear p7
          try clear q7
          try clear hx7
          try clear p7
          try clear q7
          obtain ⟨kq, x21_2, rfl, HA, HJ2, HO_3, HB⟩ := hcut
          cases kq with
          | zero => exact absurd HA.out (by simp [spec_FieldsSlash.j1])
          | succ kj2 =>
            have H := HA.out
            clear HA
            simp only [spec_FieldsSlash.j1] at H
            by_cases c8 : x21_2 = true
            · subst c8
              have H1 : (if x5_1 > x4_1 then (if 0 ≤ x4_1 then (if x4_1 ≤ x5_1 then (if x5_1 ≤ (a0.size : Int) then (if x3_1.length < 8796093022208 then (spec_FieldsSlash.l0 kj2 a0 (x3_1 ++ [a0.extract (x4_1 : Int).toNat (x5_1 : Int).toNat]) (wrap64 (x5_1 + 1)) (wrap64 (x5_1 + 1))) else (none)) else (none)) else (none)) else (none)) else (spec_FieldsSlash.l0 kj2 a0 x3_1 (wrap64 (x5_1 + 1)) (wrap64 (x5_1 + 1)))) = some r := by rw [if_pos rfl] at H; exact H
              clear H
              have H := H1
              clear H1
              by_cases c9 : x5_1 > x4_1
              · rw [if_pos c9] at H
                have c9b0 : decide (x4_1 < x5_1) = true := decide_eq_true c9
                clear c9
                by_cases c10 : 0 ≤ x4_1
                · rw [if_pos c10] at H
                  have c10b0 := eq_true c10
                  have c10b1 : decide (0 ≤ x4_1) = true := decide_eq_true c10
                  clear c10
                  by_cases c11 : x4_1 ≤ x5_1
                  · rw [if_pos c11] at H
                    have c11b0 := eq_true c11
                    have c11b1 : decide (x4_1 ≤ x5_1) = true := decide_eq_true c11
                    clear c11
                    by_cases c12 : x5_1 ≤ (a0.size : Int)
                    · rw [if_pos c12] at H
                      have c12b0 := eq_true c12
                      have c12b1 : decide (x5_1 ≤ (a0.size : Int)) = true := decide_eq_true c12
                      clear c12
                      by_cases c13 : x3_1.length < 8796093022208
                      · rw [if_pos c13] at H
                        have LMc13 := Aside0.mk c13
                        clear c13
                        obtain ⟨y113, hy113⟩ : ∃ y_ : List ByteArray, y_ = (x3_1 ++ [a0.extract (x4_1 : Int).toNat (x5_1 : Int).toNat]) := ⟨_, rfl⟩
                        replace H : (spec_FieldsSlash.l0 kj2 a0 y113 (wrap64 (x5_1 + 1)) (wrap64 (x5_1 + 1))) = some r := by first | (rw [hy113]; with_reducible exact H) | (have H2_ := (Option.bind_some _ _).symm.trans H; rw [hy113]; with_reducible exact H2_) | (have H2_ := (Option.bind_some _ _).symm.trans H; with_reducible exact H2_) | with_reducible exact H | (rw [hy113]; exact H) | exact H
                        have Ny113 := Aside0.mk hy113
                        clear hy113
                        have H' := Aside0.mk H
                        clear H
                        go_wp2_with (first | ((with_reducible refine gate_builtin (b := .append) (xs := #[.tmp 25, .tmp 30]) rfl ?_); at_builtin; refine Kd.R_append Kd.string (w0 := w) w.heap.size rfl (.tmp 25) (.tmp 30) 24 9 (.string ⟨#[]⟩) 16 rfl Try.underlying24 info9 rfl (by decide) (by omega) u3 x3_1 (a0.extract (x4_1 : Int).toNat (x5_1 : Int).toNat) [.string (a0.extract (x4_1 : Int).toNat (x5_1 : Int).toNat)] (fun _ => True) (fun _ => False) rfl rfl ?aP (fun _ hk => hk.elim) ?aF ?aO ?aB ?aS ?aL ?_; (case aP => exact rfl); (case aB => exact (by repeat (first | (with_reducible first | exact HB.out | apply below_alloc | apply pw_below_drewN | apply below_drew1) | exact HB.out))); (case aF => exact (fun _ _ => trivial)); (case aO => exact (by (with_reducible repeat (first | apply Kd.R_alloc | apply Kd.R_drewN | apply Kd.R_drew)); exact HO_3.out)); (case aS => exact (below_size (by repeat (first | (with_reducible first | exact HB.out | apply below_alloc | apply pw_below_drewN | apply below_drew1) | exact HB.out)))); (case aL => have := LMc13.out; omega); intro v114 w14 ho hb hg hat; rw [← Ny113.out] at ho; have n0_ := Aside0.mk (hb); have n1_ := Aside0.mk (ho); clear HB; clear HO_3; have HB := n0_; have HO115 := n1_; clear n0_ n1_; clear ho hb hg hat))
                        go_roundg kj2
                        case measure => have := HK1.out; have := HJ2.out; omega
                        case rel => exact ⟨(y113), (wrap64 (x5_1 + 1)), (wrap64 (x5_1 + 1)), (by first | rfl | (simp; done) | (simp [*]; done)), (by first | rfl | (simp; done) | (simp [*]; done)), H', ⟨by have := HK1.out; have := HJ2.out; omega⟩, ⟨by (with_reducible repeat (first | apply Kd.R_alloc | apply Kd.R_drewN | apply Kd.R_drew)); (first | exact HO115.out | (have z_ := HO115.out; simp only [own_map] at z_ ⊢; exact z_))⟩, ⟨by repeat (first | (with_reducible first | exact HB.out | apply below_alloc | apply pw_below_drewN | apply below_drew1) | exact HB.out)⟩⟩
                      · rw [if_neg c13] at H
                        exact absurd H (by simp)
                    · rw [if_neg c12] at H
                      exact absurd H (by simp)
                  · rw [if_neg c11] at H
                    exact absurd H (by simp)
                · rw [if_neg c10] at H
                  exact absurd H (by simp)
              · rw [if_neg c9] at H
                have c9b0 : decide (x4_1 < x5_1) = false := decide_eq_false c9
                clear c9
                have H' := Aside0.mk H
                clear H
                go_wp2
                go_roundg kj2
                case measure => have := HK1.out; have := HJ2.out; omega
                case rel => exact ⟨(x3_1), (wrap64 (x5_1 + 1)), (wrap64 (x5_1 + 1)), (by first | rfl | (simp; done) | (simp [*]; done)), (by first | rfl | (simp; done) | (simp [*]; done)), H', ⟨by have := HK1.out; have := HJ2.out; omega⟩, ⟨by (with_reducible repeat (first | apply Kd.R_alloc | apply Kd.R_drewN | apply Kd.R_drew)); (first | exact HO_3.out | (have z_ := HO_3.out; simp only [own_map] at z_ ⊢; exact z_))⟩, ⟨by repeat (first | (with_reducible first | exact HB.out | apply below_alloc | apply pw_below_drewN | apply below_drew1) | exact HB.out)⟩⟩
            · replace c8 := Bool.eq_false_iff.mpr c8
              subst c8
              have H1 : (spec_FieldsSlash.l0 kj2 a0 x3_1 x4_1 (wrap64 (x5_1 + 1))) = some r := by rw [if_neg (show ¬ (false = true) by decide)] at H; exact H
              clear H
              have H := H1
              clear H1
              have H' := Aside0.mk H
              clear H
              go_wp2
              go_roundg kj2
              case measure => have := HK1.out; have := HJ2.out; omega
              case rel => exact ⟨(x3_1), (x4_1), (wrap64 (x5_1 + 1)), (by first | rfl | (simp; done) | (simp [*]; done)), (by first | rfl | (simp; done) | (simp [*]; done)), H', ⟨by have := HK1.out; have := HJ2.out; omega⟩, ⟨by (with_reducible repeat (first | apply Kd.R_alloc | apply Kd.R_drewN | apply Kd.R_drew)); (first | exact HO_3.out | (have z_ := HO_3.out; simp only [own_map] at z_ ⊢; exact z_))⟩, ⟨by repeat (first | (with_reducible first | exact HB.out | apply below_alloc | apply pw_below_drewN | apply below_drew1) | exact HB.out)⟩⟩
      · rw [if_neg c2] at H
        have c2b0 : decide (x5_1 ≤ (a0.size : Int)) = false := decide_eq_false c2
        clear c2
        obtain rfl := Option.some.inj H
        go_wp2
        go_ret
        exact ⟨_, by first | rfl | (simp [errW_none, errW_some] <;> rfl) | (simp [*, errW_none, errW_some] <;> rfl), by (with_reducible repeat (first | apply Kd.R_alloc | apply Kd.R_drewN | apply Kd.R_drew)); exact HO_3.out, by repeat (first | (with_reducible first | exact HB.out | apply below_alloc | apply pw_below_drewN | apply below_drew1) | exact HB.out)⟩

/-! ### spec_pathClean: function 45 -/
mutual
def spec_pathClean.l0 : Nat → ByteArray → List ByteArray → List ByteArray → Int → Option (ByteArray)
  | 0, _, _, _, _ => none
  | k + 1, x0, x3, x4, x5 => if x5 < (x4.length : Int) then (if 0 ≤ x5 then (if (rdOf ByteArray.empty x4 x5).toList = ([46] : List UInt8) then (spec_pathClean.l0 k x0 x3 x4 (wrap64 (x5 + 1))) else (if (rdOf ByteArray.empty x4 x5).toList = ([46, 46] : List UInt8) then (if (x3.length : Int) > 0 then (if 0 ≤ (wrap64 ((x3.length : Int) - 1)) then (if (wrap64 ((x3.length : Int) - 1)) < (x3.length : Int) then (spec_pathClean.j1 k x0 x3 x4 x5 ((rdOf ByteArray.empty x3 (wrap64 ((x3.length : Int) - 1))).toList != ([46, 46] : List UInt8))) else (none)) else (none)) else (spec_pathClean.j1 k x0 x3 x4 x5 false)) else (if x3.length < 8796093022208 then (spec_pathClean.l0 k x0 (x3 ++ [rdOf ByteArray.empty x4 x5]) x4 (wrap64 (x5 + 1))) else (none)))) else (none)) else (spec_pathClean.l1 k x0 x3 (⟨#[]⟩ : ByteArray) 0)
def spec_pathClean.j1 : Nat → ByteArray → List ByteArray → List ByteArray → Int → Bool → Option (ByteArray)
  | 0, _, _, _, _, _ => none
  | k + 1, x0, x3, x4, x5, x35 => if x35 = true then (if 0 ≤ (wrap64 ((x3.length : Int) - 1)) then (if (wrap64 ((x3.length : Int) - 1)) ≤ (x3.length : Int) then (spec_pathClean.l0 k x0 (x3.take ((wrap64 ((x3.length : Int) - 1)) : Int).toNat) x4 (wrap64 (x5 + 1))) else (none)) else (none)) else ((spec_pathAhead.f x0).bind fun t125 => (if t125 = true then (spec_pathClean.l0 k x0 x3 x4 (wrap64 (x5 + 1))) else (if x3.length < 8796093022208 then (spec_pathClean.l0 k x0 (x3 ++ [(⟨#[46, 46]⟩ : ByteArray)]) x4 (wrap64 (x5 + 1))) else (none))))
def spec_pathClean.l1 : Nat → ByteArray → List ByteArray → ByteArray → Int → Option (ByteArray)
  | 0, _, _, _, _ => none
  | k + 1, x0, x3, x6, x7 => if x7 < (x3.length : Int) then (if x7 > 0 then (if x6.size + 1 ≤ 9223372036854775807 then (if 0 ≤ x7 then (if (x6 ++ (⟨#[47]⟩ : ByteArray)).size + (rdOf ByteArray.empty x3 x7).size ≤ 9223372036854775807 then (spec_pathClean.l1 k x0 x3 ((x6 ++ (⟨#[47]⟩ : ByteArray)) ++ (rdOf ByteArray.empty x3 x7)) (wrap64 (x7 + 1))) else (none)) else (none)) else (none)) else (if 0 ≤ x7 then (if x6.size + (rdOf ByteArray.empty x3 x7).size ≤ 9223372036854775807 then (spec_pathClean.l1 k x0 x3 (x6 ++ (rdOf ByteArray.empty x3 x7)) (wrap64 (x7 + 1))) else (none)) else (none))) else ((spec_pathAhead.f x0).bind fun t135 => (if t135 = true then (if 1 + x6.size ≤ 9223372036854775807 then (some ((⟨#[47]⟩ : ByteArray) ++ x6)) else (none)) else (if x6.toList = ([] : List UInt8) then (some (⟨#[46]⟩ : ByteArray)) else (some x6))))
end
def spec_pathClean.f (k : Nat) (a0 : ByteArray) : Option (ByteArray) := (spec_FieldsSlash.f k a0).bind fun t116 => (spec_pathClean.l0 k a0 ([] : List ByteArray) t116 0)
theorem spec_pathClean.mono_l : ∀ k, (∀ y0 y1 y2 y3, LeO (spec_pathClean.l0 k y0 y1 y2 y3) (spec_pathClean.l0 (k + 1) y0 y1 y2 y3)) ∧ (∀ y0 y1 y2 y3 y4, LeO (spec_pathClean.j1 k y0 y1 y2 y3 y4) (spec_pathClean.j1 (k + 1) y0 y1 y2 y3 y4)) ∧ (∀ y0 y1 y2 y3, LeO (spec_pathClean.l1 k y0 y1 y2 y3) (spec_pathClean.l1 (k + 1) y0 y1 y2 y3))
  | 0 => ⟨fun _ _ _ _ r h => by simp [spec_pathClean.l0] at h, fun _ _ _ _ _ r h => by simp [spec_pathClean.j1] at h, fun _ _ _ _ r h => by simp [spec_pathClean.l1] at h⟩
  | k + 1 => by
    obtain ⟨ih0, ih1, ih2⟩ := spec_pathClean.mono_l k
    refine ⟨?_, ?_, ?_⟩
    · intro y0 y1 y2 y3
      unfold spec_pathClean.l0
      repeat' first
      | (with_reducible exact ih0 _ _ _ _)
      | (with_reducible exact ih1 _ _ _ _ _)
      | (with_reducible exact ih2 _ _ _ _)
      | (with_reducible exact spec_FieldsSlash.mono _ _)
      | (with_reducible exact LeO.refl _)
      | (with_reducible exact LeO.none _)
      | (with_reducible refine LeO.ite ?_ ?_)
      | (with_reducible refine LeO.bind ?_ (fun _ => ?_))
      | exact ih0 _ _ _ _
      | exact ih1 _ _ _ _ _
      | exact ih2 _ _ _ _
      | exact spec_FieldsSlash.mono _ _
      | exact LeO.none _
      | refine LeO.ite ?_ ?_
      | refine LeO.bind ?_ (fun _ => ?_)
    · intro y0 y1 y2 y3 y4
      unfold spec_pathClean.j1
      repeat' first
      | (with_reducible exact ih0 _ _ _ _)
      | (with_reducible exact ih1 _ _ _ _ _)
      | (with_reducible exact ih2 _ _ _ _)
      | (with_reducible exact spec_FieldsSlash.mono _ _)
      | (with_reducible exact LeO.refl _)
      | (with_reducible exact LeO.none _)
      | (with_reducible refine LeO.ite ?_ ?_)
      | (with_reducible refine LeO.bind ?_ (fun _ => ?_))
      | exact ih0 _ _ _ _
      | exact ih1 _ _ _ _ _
      | exact ih2 _ _ _ _
      | exact spec_FieldsSlash.mono _ _
      | exact LeO.none _
      | refine LeO.ite ?_ ?_
      | refine LeO.bind ?_ (fun _ => ?_)
    · intro y0 y1 y2 y3
      unfold spec_pathClean.l1
      repeat' first
      | (with_reducible exact ih0 _ _ _ _)
      | (with_reducible exact ih1 _ _ _ _ _)
      | (with_reducible exact ih2 _ _ _ _)
      | (with_reducible exact spec_FieldsSlash.mono _ _)
      | (with_reducible exact LeO.refl _)
      | (with_reducible exact LeO.none _)
      | (with_reducible refine LeO.ite ?_ ?_)
      | (with_reducible refine LeO.bind ?_ (fun _ => ?_))
      | exact ih0 _ _ _ _
      | exact ih1 _ _ _ _ _
      | exact ih2 _ _ _ _
      | exact spec_FieldsSlash.mono _ _
      | exact LeO.none _
      | refine LeO.ite ?_ ?_
      | refine LeO.bind ?_ (fun _ => ?_)
theorem spec_pathClean.mono : ∀ a0 k, LeO (spec_pathClean.f k a0) (spec_pathClean.f (k + 1) a0) := by
  intro a0 k
  obtain ⟨ih0, ih1, ih2⟩ := spec_pathClean.mono_l k
  unfold spec_pathClean.f
  repeat' first
      | (with_reducible exact ih0 _ _ _ _)
      | (with_reducible exact ih1 _ _ _ _ _)
      | (with_reducible exact ih2 _ _ _ _)
      | (with_reducible exact spec_FieldsSlash.mono _ _)
      | (with_reducible exact LeO.refl _)
      | (with_reducible exact LeO.none _)
      | (with_reducible refine LeO.ite ?_ ?_)
      | (with_reducible refine LeO.bind ?_ (fun _ => ?_))
      | exact ih0 _ _ _ _
      | exact ih1 _ _ _ _ _
      | exact ih2 _ _ _ _
      | exact spec_FieldsSlash.mono _ _
      | exact LeO.none _
      | refine LeO.ite ?_ ?_
      | refine LeO.bind ?_ (fun _ => ?_)
set_option maxHeartbeats 8000000 in
set_option maxRecDepth 100000 in
theorem spec_pathClean.calls (k : Nat) (a0 : ByteArray) (r : ByteArray) (w : World) (h : spec_pathClean.f k a0 = some r) :
    Calls Try.prog 45 #[.string a0] w fun e w' => e = .returned (.string r) ∧ Below w.heap.size w w' := by
  have HB := Aside0.mk (Below.refl w.heap.size w)
  have H : ((spec_FieldsSlash.f k a0).bind fun t116 => (spec_pathClean.l0 k a0 ([] : List ByteArray) t116 0)) = some r := h
  clear h
  replace H := Option.bind_eq_some_iff.mp H
  obtain ⟨t116, A20, H⟩ := H
  replace H : (spec_pathClean.l0 k a0 ([] : List ByteArray) t116 0) = some r := H
  have A2 := Aside0.mk A20
  clear A20
  have H' := Aside0.mk H
  clear H
  go_enter Try.func45, Try.ntmps45
  go_wp2_with (first | ((with_reducible refine gate_callee (f := 54) rfl ?_); refine goesL_ (some 9) rfl rfl Try.func54 (by kernel_rfl) rfl #[.string a0] rfl (by (try simp only [List.map_toArray, List.map_cons, List.map_nil]); first | done | rfl | (simp only [List.length_drop, List.length_take]; rfl)) ?_; (with_reducible refine (spec_FieldsSlash.calls k a0 t116 _ A2.out).mono ?_); rintro e w3 ⟨v117, rfl, ho0, hb⟩; refine ⟨_, rfl, ?_⟩; have n0_ := Aside0.mk (Kd.R_lower ho0 (below_size (by repeat (first | (with_reducible first | exact HB.out | apply below_alloc | apply pw_below_drewN | apply below_drew1) | exact HB.out)))); have n1_ := Aside0.mk (below_step (by repeat (first | (with_reducible first | exact HB.out | apply below_alloc | apply pw_below_drewN | apply below_drew1) | exact HB.out)) hb); clear HB; have HO118 := n0_; have HB := n1_; clear n0_ n1_; (try clear hb); (try clear hb2); (try clear hk); (try clear hi); (try clear ho0)))
  try simp only [Act.put, List.setIfInBounds_toArray, List.set_cons_succ, List.set_cons_zero]
  go_loopg [3, 5] k (fun kq v3 v5 w' => ∃ (x3_1 : List ByteArray) (x5_1 : Int), v5 = .int .i64 x5_1 ∧ Aside0 (spec_pathClean.l0 kq a0 x3_1 t116 x5_1 = some r) ∧ Aside0 (kq ≤ k) ∧ Aside0 (Kd.R Kd.string 9 w' w.heap.size (fun k_ => some k_ ≠ (v117 : Value).ownBlock) v3 x3_1) ∧ Aside0 (Kd.R Kd.string 9 w' w.heap.size (fun k_ => some k_ ≠ (v3 : Value).ownBlock) v117 t116) ∧ Aside0 (Below w.heap.size w w'))
  case atStart => exact ⟨(([] : List ByteArray)), (0), (by first | rfl | (simp; done) | (simp [*]; done)), H', ⟨Nat.le_refl _⟩, ⟨by first | exact Kd.R_nil _ _ _ _ _ | exact Kd.N_nil _ _ _ _ _ | exact Kd.V_nil _ _ _ _ _ | exact Kd.Q_nil _ _ _ _ _ | exact Kd.S_nil _ _ _ _ _⟩, ⟨by (with_reducible repeat (first | apply Kd.R_alloc | apply Kd.R_drewN | apply Kd.R_drew)); exact Kd.R_mono HO118.out (fun _ hk => (by simp [Value.ownBlock]))⟩, ⟨by repeat (first | (with_reducible first | exact HB.out | apply below_alloc | apply pw_below_drewN | apply below_drew1) | exact HB.out)⟩⟩
  case round =>
    clear H'
    try clear p2
    obtain ⟨x3_1, x5_1, rfl, HA, HK1, HO_3, HO_4, HB⟩ := hrel
    cases gk with
    | zero => exact absurd HA.out (by simp [spec_pathClean.l0])
    | succ k1 =>
      have H := HA.out
      clear HA
      simp only [spec_pathClean.l0] at H
      by_cases c4 : x5_1 < (t116.length : Int)
      · rw [if_pos c4] at H
        have c4b0 : decide (x5_1 < (t116.length : Int)) = true := decide_eq_true c4
        clear c4
        by_cases c5 : 0 ≤ x5_1
        · rw [if_pos c5] at H
          have c5b0 : decide (0 ≤ x5_1) = true := decide_eq_true c5
          clear c5
          by_cases c6 : (rdOf ByteArray.empty t116 x5_1).toList = ([46] : List UInt8)
          · rw [if_pos c6] at H
            have c6b0 : ((rdOf ByteArray.empty t116 x5_1).toList == ([46] : List UInt8)) = true := beq_iff_eq.mpr c6
            have c6b1 : ((rdOf ByteArray.empty t116 x5_1).toList != ([46] : List UInt8)) = false := bne_eq_false_iff_eq.mpr c6
            clear c6
            have H' := Aside0.mk H
            clear H
            obtain ⟨Ao7, co7, eo7⟩ := Kd.R_slice HO_4.out
            subst eo7
            have p119 : 0 ≤ (x5_1 : Int) := of_decide_eq_true (by first | (with_reducible assumption) | assumption)
            have q119 : x5_1 < (t116.length : Int) := of_decide_eq_true (by first | (with_reducible assumption) | assumption)
            obtain ⟨ad119, e119, hx119_0⟩ := Kd.at_string (Kd.R_reads' HO_4.out).2.2 x5_1 p119 q119
            cases e119
            replace p119 := eq_true p119
            replace q119 := eq_true q119
            go_wp2
            go_roundg k1
            case measure => have := HK1.out; omega
            case rel => exact ⟨(x3_1), (wrap64 (x5_1 + 1)), (by first | rfl | (simp; done) | (simp [*]; done)), H', ⟨by have := HK1.out; omega⟩, ⟨by (with_reducible repeat (first | apply Kd.R_alloc | apply Kd.R_drewN | apply Kd.R_drew)); (first | exact HO_3.out | (have z_ := HO_3.out; simp only [own_map] at z_ ⊢; exact z_))⟩, ⟨by (with_reducible repeat (first | apply Kd.R_alloc | apply Kd.R_drewN | apply Kd.R_drew)); (first | exact HO_4.out | (have z_ := HO_4.out; simp only [own_map] at z_ ⊢; exact z_))⟩, ⟨by repeat (first | (with_reducible first | exact HB.out | apply below_alloc | apply pw_below_drewN | apply below_drew1) | exact HB.out)⟩⟩
          · rw [if_neg c6] at H
            have c6b0 : ((rdOf ByteArray.empty t116 x5_1).toList == ([46] : List UInt8)) = false := beq_eq_false_iff_ne.mpr c6
            have c6b1 : ((rdOf ByteArray.empty t116 x5_1).toList != ([46] : List UInt8)) = true := bne_iff_ne.mpr c6
            by_cases c8 : (rdOf ByteArray.empty t116 x5_1).toList = ([46, 46] : List UInt8)
            · rw [if_pos c8] at H
              have c8b0 : ((rdOf ByteArray.empty t116 x5_1).toList == ([46, 46] : List UInt8)) = true := beq_iff_eq.mpr c8
              have c8b1 : ((rdOf ByteArray.empty t116 x5_1).toList != ([46, 46] : List UInt8)) = false := bne_eq_false_iff_eq.mpr c8
              clear c8
              have HC9 := Aside0.mk H
              clear H
              obtain ⟨Ao10, co10, eo10⟩ := Kd.R_slice HO_4.out
              subst eo10
              have p119 : 0 ≤ (x5_1 : Int) := of_decide_eq_true (by first | (with_reducible assumption) | assumption)
              have q119 : x5_1 < (t116.length : Int) := of_decide_eq_true (by first | (with_reducible assumption) | assumption)
              obtain ⟨ad119, e119, hx119_0⟩ := Kd.at_string (Kd.R_reads' HO_4.out).2.2 x5_1 p119 q119
              cases e119
              replace p119 := eq_true p119
              replace q119 := eq_true q119
              have p120 : 0 ≤ (x5_1 : Int) := of_decide_eq_true (by first | (with_reducible assumption) | assumption)
              have q120 : x5_1 < (t116.length : Int) := of_decide_eq_true (by first | (with_reducible assumption) | assumption)
              obtain ⟨ad120, e120, hx120_0⟩ := Kd.at_string (Kd.R_reads' HO_4.out).2.2 x5_1 p120 q120
              obtain rfl : ad119 = ad120 := (by injection e120)
              replace p120 := eq_true p120
              replace q120 := eq_true q120
              go_upto_region 9 with (fail)
              go_cut [35] (fun v35 wc => ∃ (kq : Nat) (x35_8 : Bool), v35 = .bool x35_8 ∧ Aside0 (spec_pathClean.j1 kq a0 x3_1 t116 x5_1 x35_8 = some r) ∧ Aside0 (kq ≤ k1) ∧ Aside0 (Kd.R Kd.string 9 wc w.heap.size (fun k_ => some k_ ≠ ((.slice (some ad119) t116.length co10) : Value).ownBlock) u3 x3_1) ∧ Aside0 (Kd.R Kd.string 9 wc w.heap.size (fun k_ => some k_ ≠ (u3 : Value).ownBlock) (.slice (some ad119) t116.length co10) t116) ∧ Aside0 (Below w.heap.size w wc))
              case first =>
                have H := HC9.out
                clear HC9
                by_cases c11 : (x3_1.length : Int) > 0
                · rw [if_pos c11] at H
                  have c11b0 : decide (0 < (x3_1.length : Int)) = true := decide_eq_true c11
                  have c11b1 : decide (0 < x3_1.length) = true := decide_eq_true (by omega)
                  clear c11
                  (first | rw [c11b0] | (simp only [i64_w, i32_w]; rw [c11b0]) | skip)
                  obtain ⟨ji12, hji12⟩ : ∃ j_ : Int, (wrap64 ((x3_1.length : Int) - 1)) = j_ := ⟨_, rfl⟩
                  replace H : (if 0 ≤ (ji12) then (if (ji12) < (x3_1.length : Int) then (spec_pathClean.j1 k1 a0 x3_1 t116 x5_1 ((rdOf ByteArray.empty x3_1 (ji12)).toList != ([46, 46] : List UInt8))) else (none)) else (none)) = some r := by first | (rw [hji12] at H; exact H) | (simp only [hji12] at H ⊢; exact H)
                  have hji12w : (IntKind.i64.wrap ((x3_1.length : Int) - 1)) = ji12 := (i64_w _).trans hji12
                  by_cases c13 : 0 ≤ (ji12)
                  · rw [if_pos c13] at H
                    have c13b0 : decide (0 ≤ (ji12)) = true := decide_eq_true c13
                    clear c13
                    by_cases c14 : (ji12) < (x3_1.length : Int)
                    · rw [if_pos c14] at H
                      have c14b0 : decide ((ji12) < (x3_1.length : Int)) = true := decide_eq_true c14
                      clear c14
                      have H' := Aside0.mk H
                      clear H
                      obtain ⟨Ao15, co15, eo15⟩ := Kd.R_slice HO_3.out
                      subst eo15
                      have p121 : 0 ≤ ((ji12) : Int) := of_decide_eq_true (by first | (with_reducible assumption) | assumption)
                      have q121 : (ji12) < (x3_1.length : Int) := of_decide_eq_true (by first | (with_reducible assumption) | assumption)
                      obtain ⟨ad121, e121, hx121_0⟩ := Kd.at_string (Kd.R_reads' HO_3.out).2.2 (ji12) p121 q121
                      cases e121
                      replace p121 := eq_true p121
                      replace q121 := eq_true q121
                      go_wp2
                      go_meet
                      case rel => exact ⟨_, (((rdOf ByteArray.empty x3_1 (ji12)).toList != ([46, 46] : List UInt8))), (by first | rfl | (simp; done) | (simp only [← hji12] <;> (first | rfl | simp)) | (simp [*]; done)), H', ⟨by have := HK1.out; first | omega | exact Nat.le_refl _⟩, ⟨by (with_reducible repeat (first | apply Kd.R_alloc | apply Kd.R_drewN | apply Kd.R_drew)); (first | exact HO_3.out | (have z_ := HO_3.out; simp only [own_map] at z_ ⊢; exact z_))⟩, ⟨by (with_reducible repeat (first | apply Kd.R_alloc | apply Kd.R_drewN | apply Kd.R_drew)); (first | exact HO_4.out | (have z_ := HO_4.out; simp only [own_map] at z_ ⊢; exact z_))⟩, ⟨by repeat (first | (with_reducible first | exact HB.out | apply below_alloc | apply pw_below_drewN | apply below_drew1) | exact HB.out)⟩⟩
                    · rw [if_neg c14] at H
                      exact absurd H (by simp)
                  · rw [if_neg c13] at H
                    exact absurd H (by simp)
                · rw [if_neg c11] at H
                  have c11b0 : decide (0 < (x3_1.length : Int)) = false := decide_eq_false c11
                  have c11b1 : decide (0 < x3_1.length) = false := decide_eq_false (by omega)
                  clear c11
                  (first | rw [c11b0] | (simp only [i64_w, i32_w]; rw [c11b0]) | skip)
                  have H' := Aside0.mk H
                  clear H
                  obtain ⟨Ao16, co16, eo16⟩ := Kd.R_slice HO_3.out
                  subst eo16
                  go_wp2
                  go_meet
                  case rel => exact ⟨_, (false), (by first | rfl | (simp; done) | (simp [*]; done)), H', ⟨by have := HK1.out; first | omega | exact Nat.le_refl _⟩, ⟨by (with_reducible repeat (first | apply Kd.R_alloc | apply Kd.R_drewN | apply Kd.R_drew)); (first | exact HO_3.out | (have z_ := HO_3.out; simp only [own_map] at z_ ⊢; exact z_))⟩, ⟨by (with_reducible repeat (first | apply Kd.R_alloc | apply Kd.R_drewN | apply Kd.R_drew)); (first | exact HO_4.out | (have z_ := HO_4.out; simp only [own_map] at z_ ⊢; exact z_))⟩, ⟨by repeat (first | (with_reducible first | exact HB.out | apply below_alloc | apply pw_below_drewN | apply below_drew1) | exact HB.out)⟩⟩
              case rest =>
                clear HC9
                try clear c1
                try clear p1
                try clear q1
                try clear hx1
                try clear p2
                try clear c4
                try clear c4b0
                try clear c5
                try clear c5b0
                try clear c6
                try clear c6b0
                try clear c6b1
                try clear p6
                try clear c8
                try clear c8b0
                try clear c8b1
                try clear c11
                try clear c11b0
                try clear c11b1
                try clear p11
                try clear q11
                try clear hx11
                try clear p12
                try clear q12
                try clear hx12
                try clear c13
                try clear c13b0
                try clear c14
                try clear c14b0
                try clear hx119_0
                try clear hx120_0
                try clear hx121_0
                try clear p119
                try clear p120
                try clear p121
                try clear p2
                try clear q119
                try clear q120
                try clear q121
                obtain ⟨kq, x35_8, rfl, HA, HJ8, HO_3, HO_4, HB⟩ := hcut
                cases kq with
                | zero => exact absurd HA.out (by simp [spec_pathClean.j1])
                | succ kj8 =>
                  have H := HA.out
                  clear HA
                  simp only [spec_pathClean.j1] at H
                  by_cases c17 : x35_8 = true
                  · subst c17
                    have H1 : (if 0 ≤ (wrap64 ((x3_1.length : Int) - 1)) then (if (wrap64 ((x3_1.length : Int) - 1)) ≤ (x3_1.length : Int) then (spec_pathClean.l0 kj8 a0 (x3_1.take ((wrap64 ((x3_1.length : Int) - 1)) : Int).toNat) t116 (wrap64 (x5_1 + 1))) else (none)) else (none)) = some r := by rw [if_pos rfl] at H; exact H
                    clear H
                    have H := H1
                    clear H1
                    obtain ⟨ji18, hji18⟩ : ∃ j_ : Int, (wrap64 ((x3_1.length : Int) - 1)) = j_ := ⟨_, rfl⟩
                    replace H : (if 0 ≤ (ji18) then (if (ji18) ≤ (x3_1.length : Int) then (spec_pathClean.l0 kj8 a0 (x3_1.take ((ji18) : Int).toNat) t116 (wrap64 (x5_1 + 1))) else (none)) else (none)) = some r := by first | (rw [hji18] at H; exact H) | (simp only [hji18] at H ⊢; exact H)
                    have hji18w : (IntKind.i64.wrap ((x3_1.length : Int) - 1)) = ji18 := (i64_w _).trans hji18
                    by_cases c19 : 0 ≤ (ji18)
                    · rw [if_pos c19] at H
                      have c19b0 := eq_true c19
                      have c19b1 : decide (0 ≤ (ji18)) = true := decide_eq_true c19
                      clear c19
                      by_cases c20 : (ji18) ≤ (x3_1.length : Int)
                      · rw [if_pos c20] at H
                        have c20b0 := eq_true c20
                        have c20b1 : decide ((ji18) ≤ (x3_1.length : Int)) = true := decide_eq_true c20
                        clear c20
                        obtain ⟨y122, hy122⟩ : ∃ y_ : List ByteArray, y_ = (x3_1.take ((ji18) : Int).toNat) := ⟨_, rfl⟩
                        replace H : (spec_pathClean.l0 kj8 a0 y122 t116 (wrap64 (x5_1 + 1))) = some r := by first | (rw [hy122]; with_reducible exact H) | (have H2_ := (Option.bind_some _ _).symm.trans H; rw [hy122]; with_reducible exact H2_) | (have H2_ := (Option.bind_some _ _).symm.trans H; with_reducible exact H2_) | with_reducible exact H | (rw [hy122]; exact H) | exact H
                        have Ny122 := Aside0.mk hy122
                        clear hy122
                        have H' := Aside0.mk H
                        clear H
                        obtain ⟨Ao21, co21, eo21⟩ := Kd.R_slice HO_3.out
                        subst eo21
                        have q22 : ((ji18) : Int) ≤ ((x3_1.length : Int) : Int) := of_decide_eq_true (by first | (with_reducible assumption) | assumption)
                        obtain ⟨i022, hi022, _, hsz22, _⟩ := info_parts info9
                        have hcut22 := cut_to (P := Try.prog) 24 9 .i64 Try.underlying24 hi022 Ao21 x3_1.length co21 (ji18) (of_decide_eq_true (by first | (with_reducible assumption) | assumption)) q22 (Kd.R_reads' HO_3.out).2.1
                        have hr22 := Kd.R_take (m := ((ji18) : Int).toNat) HO_3.out (by omega)
                        have hy22 : y122.length = ((ji18) : Int).toNat := (by rw [Ny122.out, List.length_take]; omega)
                        rw [← Ny122.out] at hr22
                        rw [← hy22] at hr22 hcut22
                        clear hy22 hi022 hsz22 HO_3
                        have HO124 := Aside0.mk hr22
                        clear hr22
                        replace q22 := eq_true q22
                        go_wp2
                        go_roundg kj8
                        case measure => have := HK1.out; have := HJ8.out; omega
                        case rel => exact ⟨(y122), (wrap64 (x5_1 + 1)), (by first | rfl | (simp; done) | (simp [*]; done)), H', ⟨by have := HK1.out; have := HJ8.out; omega⟩, ⟨by (with_reducible repeat (first | apply Kd.R_alloc | apply Kd.R_drewN | apply Kd.R_drew)); (first | exact HO124.out | (have z_ := HO124.out; simp only [own_map] at z_ ⊢; exact z_))⟩, ⟨by (with_reducible repeat (first | apply Kd.R_alloc | apply Kd.R_drewN | apply Kd.R_drew)); (first | exact HO_4.out | (have z_ := HO_4.out; simp only [own_map] at z_ ⊢; exact z_))⟩, ⟨by repeat (first | (with_reducible first | exact HB.out | apply below_alloc | apply pw_below_drewN | apply below_drew1) | exact HB.out)⟩⟩
                      · rw [if_neg c20] at H
                        exact absurd H (by simp)
                    · rw [if_neg c19] at H
                      exact absurd H (by simp)
                  · replace c17 := Bool.eq_false_iff.mpr c17
                    subst c17
                    have H1 : ((spec_pathAhead.f a0).bind fun t125 => (if t125 = true then (spec_pathClean.l0 kj8 a0 x3_1 t116 (wrap64 (x5_1 + 1))) else (if x3_1.length < 8796093022208 then (spec_pathClean.l0 kj8 a0 (x3_1 ++ [(⟨#[46, 46]⟩ : ByteArray)]) t116 (wrap64 (x5_1 + 1))) else (none)))) = some r := by rw [if_neg (show ¬ (false = true) by decide)] at H; exact H
                    clear H
                    have H := H1
                    clear H1
                    replace H := Option.bind_eq_some_iff.mp H
                    obtain ⟨t125, A230, H⟩ := H
                    replace H : (if t125 = true then (spec_pathClean.l0 kj8 a0 x3_1 t116 (wrap64 (x5_1 + 1))) else (if x3_1.length < 8796093022208 then (spec_pathClean.l0 kj8 a0 (x3_1 ++ [(⟨#[46, 46]⟩ : ByteArray)]) t116 (wrap64 (x5_1 + 1))) else (none))) = some r := H
                    have A23 := Aside0.mk A230
                    clear A230
                    by_cases c24 : t125 = true
                    · subst c24
                      have H1 : (spec_pathClean.l0 kj8 a0 x3_1 t116 (wrap64 (x5_1 + 1))) = some r := by rw [if_pos rfl] at H; exact H
                      clear H
                      have H := H1
                      clear H1
                      have H' := Aside0.mk H
                      clear H
                      go_wp2_with (first | ((with_reducible refine gate_callee (f := 36) rfl ?_); refine goesL_ (some 55) rfl rfl Try.func36 (by kernel_rfl) rfl #[.string a0] rfl (by (try simp only [List.map_toArray, List.map_cons, List.map_nil]); first | done | rfl | (simp only [List.length_drop, List.length_take]; rfl)) ?_; (with_reducible refine (spec_pathAhead.calls a0 true _ A23.out).mono ?_); rintro e w' ⟨rfl, ⟨nd, rfl⟩⟩; refine ⟨_, rfl, ?_⟩))
                      go_roundg kj8
                      case measure => have := HK1.out; have := HJ8.out; omega
                      case rel => exact ⟨(x3_1), (wrap64 (x5_1 + 1)), (by first | rfl | (simp; done) | (simp [*]; done)), H', ⟨by have := HK1.out; have := HJ8.out; omega⟩, ⟨by (with_reducible repeat (first | apply Kd.R_alloc | apply Kd.R_drewN | apply Kd.R_drew)); (first | exact HO_3.out | (have z_ := HO_3.out; simp only [own_map] at z_ ⊢; exact z_))⟩, ⟨by (with_reducible repeat (first | apply Kd.R_alloc | apply Kd.R_drewN | apply Kd.R_drew)); (first | exact HO_4.out | (have z_ := HO_4.out; simp only [own_map] at z_ ⊢; exact z_))⟩, ⟨by repeat (first | (with_reducible first | exact HB.out | apply below_alloc | apply pw_below_drewN | apply below_drew1) | exact HB.out)⟩⟩
                    · replace c24 := Bool.eq_false_iff.mpr c24
                      subst c24
                      have H1 : (if x3_1.length < 8796093022208 then (spec_pathClean.l0 kj8 a0 (x3_1 ++ [(⟨#[46, 46]⟩ : ByteArray)]) t116 (wrap64 (x5_1 + 1))) else (none)) = some r := by rw [if_neg (show ¬ (false = true) by decide)] at H; exact H
                      clear H
                      have H := H1
                      clear H1
                      by_cases c25 : x3_1.length < 8796093022208
                      · rw [if_pos c25] at H
                        have LMc25 := Aside0.mk c25
                        clear c25
                        obtain ⟨y126, hy126⟩ : ∃ y_ : List ByteArray, y_ = (x3_1 ++ [(⟨#[46, 46]⟩ : ByteArray)]) := ⟨_, rfl⟩
                        replace H : (spec_pathClean.l0 kj8 a0 y126 t116 (wrap64 (x5_1 + 1))) = some r := by first | (rw [hy126]; with_reducible exact H) | (have H2_ := (Option.bind_some _ _).symm.trans H; rw [hy126]; with_reducible exact H2_) | (have H2_ := (Option.bind_some _ _).symm.trans H; with_reducible exact H2_) | with_reducible exact H | (rw [hy126]; exact H) | exact H
                        have Ny126 := Aside0.mk hy126
                        clear hy126
                        have H' := Aside0.mk H
                        clear H
                        go_wp2_with (first | ((with_reducible refine gate_callee (f := 36) rfl ?_); refine goesL_ (some 55) rfl rfl Try.func36 (by kernel_rfl) rfl #[.string a0] rfl (by (try simp only [List.map_toArray, List.map_cons, List.map_nil]); first | done | rfl | (simp only [List.length_drop, List.length_take]; rfl)) ?_; (with_reducible refine (spec_pathAhead.calls a0 false _ A23.out).mono ?_); rintro e w' ⟨rfl, ⟨nd, rfl⟩⟩; refine ⟨_, rfl, ?_⟩) | ((with_reducible refine gate_builtin (b := .append) (xs := #[.tmp 57, .tmp 58]) rfl ?_); (try (refine gate_guard (by rfl) ?_; dsimp only)); at_builtin; refine Kd.R_append Kd.string (w0 := w) w.heap.size rfl (.tmp 57) (.tmp 58) 24 9 (.string ⟨#[]⟩) 16 rfl Try.underlying24 info9 rfl (by decide) (by omega) u3 x3_1 (⟨#[46, 46]⟩ : ByteArray) [.string (⟨#[46, 46]⟩ : ByteArray)] (fun k_ => some k_ ≠ (.slice (some ad119) t116.length co10 : Value).ownBlock) (fun _ => False) rfl rfl ?aP (fun _ hk => hk.elim) ?aF ?aO ?aB ?aS ?aL ?_; (case aP => exact rfl); (case aB => exact (by repeat (first | (with_reducible first | exact HB.out | apply below_alloc | apply pw_below_drewN | apply below_drew1) | exact HB.out))); (case aF => exact (fun k_ hk => Kd.fresh' (Kd.R_lt (by (with_reducible repeat (first | apply Kd.R_alloc | apply Kd.R_drewN | apply Kd.R_drew)); exact HO_4.out)) k_ hk)); (case aO => exact (by (with_reducible repeat (first | apply Kd.R_alloc | apply Kd.R_drewN | apply Kd.R_drew)); exact HO_3.out)); (case aS => exact (below_size (by repeat (first | (with_reducible first | exact HB.out | apply below_alloc | apply pw_below_drewN | apply below_drew1) | exact HB.out)))); (case aL => have := LMc25.out; omega); intro v127 w26 ho hb hg hat; rw [← Ny126.out] at ho; have n0_ := Aside0.mk (Kd.R_after (ok := (fun _ => True)) (by (with_reducible repeat (first | apply Kd.R_alloc | apply Kd.R_drewN | apply Kd.R_drew)); exact Kd.R_mono HO_4.out (fun _ hk => ⟨trivial, hk⟩)) hg hat); have n1_ := Aside0.mk (hb); have n2_ := Aside0.mk (ho); clear HO_4; clear HB; clear HO_3; have HO_4 := n0_; have HB := n1_; have HO128 := n2_; clear n0_ n1_ n2_; clear ho hb hg hat))
                        go_roundg kj8
                        case measure => have := HK1.out; have := HJ8.out; omega
                        case rel => exact ⟨(y126), (wrap64 (x5_1 + 1)), (by first | rfl | (simp; done) | (simp [*]; done)), H', ⟨by have := HK1.out; have := HJ8.out; omega⟩, ⟨by (with_reducible repeat (first | apply Kd.R_alloc | apply Kd.R_drewN | apply Kd.R_drew)); (first | exact HO128.out | (have z_ := HO128.out; simp only [own_map] at z_ ⊢; exact z_))⟩, ⟨by (with_reducible repeat (first | apply Kd.R_alloc | apply Kd.R_drewN | apply Kd.R_drew)); exact Kd.R_mono HO_4.out (fun _ hk => hk.2)⟩, ⟨by repeat (first | (with_reducible first | exact HB.out | apply below_alloc | apply pw_below_drewN | apply below_drew1) | exact HB.out)⟩⟩
                      · rw [if_neg c25] at H
                        exact absurd H (by simp)
            · rw [if_neg c8] at H
              have c8b0 : ((rdOf ByteArray.empty t116 x5_1).toList == ([46, 46] : List UInt8)) = false := beq_eq_false_iff_ne.mpr c8
              have c8b1 : ((rdOf ByteArray.empty t116 x5_1).toList != ([46, 46] : List UInt8)) = true := bne_iff_ne.mpr c8
              by_cases c27 : x3_1.length < 8796093022208
              · rw [if_pos c27] at H
                have LMc27 := Aside0.mk c27
                clear c27
                obtain ⟨y130, hy130⟩ : ∃ y_ : List ByteArray, y_ = (x3_1 ++ [rdOf ByteArray.empty t116 x5_1]) := ⟨_, rfl⟩
                replace H : (spec_pathClean.l0 k1 a0 y130 t116 (wrap64 (x5_1 + 1))) = some r := by first | (rw [hy130]; with_reducible exact H) | (have H2_ := (Option.bind_some _ _).symm.trans H; rw [hy130]; with_reducible exact H2_) | (have H2_ := (Option.bind_some _ _).symm.trans H; with_reducible exact H2_) | with_reducible exact H | (rw [hy130]; exact H) | exact H
                have Ny130 := Aside0.mk hy130
                clear hy130
                have H' := Aside0.mk H
                clear H
                obtain ⟨Ao28, co28, eo28⟩ := Kd.R_slice HO_4.out
                subst eo28
                have p119 : 0 ≤ (x5_1 : Int) := of_decide_eq_true (by first | (with_reducible assumption) | assumption)
                have q119 : x5_1 < (t116.length : Int) := of_decide_eq_true (by first | (with_reducible assumption) | assumption)
                obtain ⟨ad119, e119, hx119_0⟩ := Kd.at_string (Kd.R_reads' HO_4.out).2.2 x5_1 p119 q119
                cases e119
                replace p119 := eq_true p119
                replace q119 := eq_true q119
                have p120 : 0 ≤ (x5_1 : Int) := of_decide_eq_true (by first | (with_reducible assumption) | assumption)
                have q120 : x5_1 < (t116.length : Int) := of_decide_eq_true (by first | (with_reducible assumption) | assumption)
                obtain ⟨ad120, e120, hx120_0⟩ := Kd.at_string (Kd.R_reads' HO_4.out).2.2 x5_1 p120 q120
                obtain rfl : ad119 = ad120 := (by injection e120)
                replace p120 := eq_true p120
                replace q120 := eq_true q120
                have p129 : 0 ≤ (x5_1 : Int) := of_decide_eq_true (by first | (with_reducible assumption) | assumption)
                have q129 : x5_1 < (t116.length : Int) := of_decide_eq_true (by first | (with_reducible assumption) | assumption)
                obtain ⟨ad129, e129, hx129_0⟩ := Kd.at_string (Kd.R_reads' HO_4.out).2.2 x5_1 p129 q129
                obtain rfl : ad119 = ad129 := (by injection e129)
                replace p129 := eq_true p129
                replace q129 := eq_true q129
                go_wp2_with (first | ((with_reducible refine gate_builtin (b := .append) (xs := #[.tmp 28, .tmp 33]) rfl ?_); (try (refine gate_guard (by rfl) ?_; dsimp only)); at_builtin; refine Kd.R_append Kd.string (w0 := w) w.heap.size rfl (.tmp 28) (.tmp 33) 24 9 (.string ⟨#[]⟩) 16 rfl Try.underlying24 info9 rfl (by decide) (by omega) u3 x3_1 (rdOf ByteArray.empty t116 x5_1) [.string (rdOf ByteArray.empty t116 x5_1)] (fun k_ => some k_ ≠ (.slice (some ad119) t116.length co28 : Value).ownBlock) (fun _ => False) rfl rfl ?aP (fun _ hk => hk.elim) ?aF ?aO ?aB ?aS ?aL ?_; (case aP => exact rfl); (case aB => exact (by repeat (first | (with_reducible first | exact HB.out | apply below_alloc | apply pw_below_drewN | apply below_drew1) | exact HB.out))); (case aF => exact (fun k_ hk => Kd.fresh' (Kd.R_lt (by (with_reducible repeat (first | apply Kd.R_alloc | apply Kd.R_drewN | apply Kd.R_drew)); exact HO_4.out)) k_ hk)); (case aO => exact (by (with_reducible repeat (first | apply Kd.R_alloc | apply Kd.R_drewN | apply Kd.R_drew)); exact HO_3.out)); (case aS => exact (below_size (by repeat (first | (with_reducible first | exact HB.out | apply below_alloc | apply pw_below_drewN | apply below_drew1) | exact HB.out)))); (case aL => have := LMc27.out; omega); intro v131 w29 ho hb hg hat; rw [← Ny130.out] at ho; have n0_ := Aside0.mk (Kd.R_after (ok := (fun _ => True)) (by (with_reducible repeat (first | apply Kd.R_alloc | apply Kd.R_drewN | apply Kd.R_drew)); exact Kd.R_mono HO_4.out (fun _ hk => ⟨trivial, hk⟩)) hg hat); have n1_ := Aside0.mk (hb); have n2_ := Aside0.mk (ho); clear HO_4; clear HB; clear HO_3; have HO_4 := n0_; have HB := n1_; have HO132 := n2_; clear n0_ n1_ n2_; clear ho hb hg hat))
                go_roundg k1
                case measure => have := HK1.out; omega
                case rel => exact ⟨(y130), (wrap64 (x5_1 + 1)), (by first | rfl | (simp; done) | (simp [*]; done)), H', ⟨by have := HK1.out; omega⟩, ⟨by (with_reducible repeat (first | apply Kd.R_alloc | apply Kd.R_drewN | apply Kd.R_drew)); (first | exact HO132.out | (have z_ := HO132.out; simp only [own_map] at z_ ⊢; exact z_))⟩, ⟨by (with_reducible repeat (first | apply Kd.R_alloc | apply Kd.R_drewN | apply Kd.R_drew)); exact Kd.R_mono HO_4.out (fun _ hk => hk.2)⟩, ⟨by repeat (first | (with_reducible first | exact HB.out | apply below_alloc | apply pw_below_drewN | apply below_drew1) | exact HB.out)⟩⟩
              · rw [if_neg c27] at H
                exact absurd H (by simp)
        · rw [if_neg c5] at H
          exact absurd H (by simp)
      · rw [if_neg c4] at H
        have c4b0 : decide (x5_1 < (t116.length : Int)) = false := decide_eq_false c4
        clear c4
        have H' := Aside0.mk H
        clear H
        obtain ⟨Ao30, co30, eo30⟩ := Kd.R_slice HO_4.out
        subst eo30
        go_wp2
        try simp only [Act.put, List.setIfInBounds_toArray, List.set_cons_succ, List.set_cons_zero]
        go_loopg [6, 7] k1 (fun kq v6 v7 w' => ∃ (x6_2 : ByteArray) (x7_2 : Int), v6 = .string x6_2 ∧ v7 = .int .i64 x7_2 ∧ Aside0 (spec_pathClean.l1 kq a0 x3_1 x6_2 x7_2 = some r) ∧ Aside0 (kq ≤ k1) ∧ Aside0 (Kd.R Kd.string 9 w' w.heap.size (fun _ => True) u3 x3_1) ∧ Aside0 (Below w.heap.size w w'))
        case atStart => exact ⟨((⟨#[]⟩ : ByteArray)), (0), (by first | rfl | (simp; done) | (simp [*]; done)), (by first | rfl | (simp; done) | (simp [*]; done)), H', ⟨Nat.le_refl _⟩, ⟨by (with_reducible repeat (first | apply Kd.R_alloc | apply Kd.R_drewN | apply Kd.R_drew)); exact Kd.R_mono HO_3.out (fun _ hk => trivial)⟩, ⟨by repeat (first | (with_reducible first | exact HB.out | apply below_alloc | apply pw_below_drewN | apply below_drew1) | exact HB.out)⟩⟩
        case round =>
          clear H'
          try clear c1
          try clear p1
          try clear q1
          try clear hx1
          try clear c2
          try clear p2
          try clear q2
          try clear c3
          try clear c4
          try clear c4b0
          try clear c5
          try clear c5b0
          try clear c6
          try clear c6b0
          try clear c6b1
          try clear p6
          try clear c8
          try clear c8b0
          try clear c8b1
          try clear c11
          try clear c11b0
          try clear c11b1
          try clear p11
          try clear q11
          try clear hx11
          try clear p12
          try clear q12
          try clear hx12
          try clear c13
          try clear c13b0
          try clear c14
          try clear c14b0
          try clear c17
          try clear c19
          try clear c19b0
          try clear c19b1
          try clear c20
          try clear c20b0
          try clear c20b1
          try clear q22
          try clear c24
          try clear c25
          try clear c27
          try clear hx119_0
          try clear hx120_0
          try clear hx121_0
          try clear hx129_0
          try clear p1
          try clear p11
          try clear p119
          try clear p12
          try clear p120
          try clear p121
          try clear p129
          try clear p2
          try clear p6
          try clear q1
          try clear q11
          try clear q119
          try clear q12
          try clear q120
          try clear q121
          try clear q129
          try clear q22
          obtain ⟨x6_2, x7_2, rfl, rfl, HA, HK2, HO_3, HB⟩ := hrel
          cases gk with
          | zero => exact absurd HA.out (by simp [spec_pathClean.l1])
          | succ k2 =>
            have H := HA.out
            clear HA
            simp only [spec_pathClean.l1] at H
            by_cases c31 : x7_2 < (x3_1.length : Int)
            · rw [if_pos c31] at H
              have c31b0 : decide (x7_2 < (x3_1.length : Int)) = true := decide_eq_true c31
              clear c31
              by_cases c32 : x7_2 > 0
              · rw [if_pos c32] at H
                have c32b0 : decide (0 < x7_2) = true := decide_eq_true c32
                clear c32
                by_cases c33 : x6_2.size + 1 ≤ 9223372036854775807
                · rw [if_pos c33] at H
                  have c33b0 := eq_true c33
                  have c33b1 : decide (x6_2.size + 1 ≤ 9223372036854775807) = true := decide_eq_true c33
                  try have c33b2 : (9223372036854775807 < x6_2.size + 1) = False := eq_false (Nat.not_lt.2 c33)
                  by_cases c34 : 0 ≤ x7_2
                  · rw [if_pos c34] at H
                    have c34b0 : decide (0 ≤ x7_2) = true := decide_eq_true c34
                    clear c34
                    by_cases c35 : (x6_2 ++ (⟨#[47]⟩ : ByteArray)).size + (rdOf ByteArray.empty x3_1 x7_2).size ≤ 9223372036854775807
                    · rw [if_pos c35] at H
                      have c35b0 := eq_true c35
                      have c35b1 : decide ((x6_2 ++ (⟨#[47]⟩ : ByteArray)).size + (rdOf ByteArray.empty x3_1 x7_2).size ≤ 9223372036854775807) = true := decide_eq_true c35
                      try have c35b2 : (9223372036854775807 < (x6_2 ++ (⟨#[47]⟩ : ByteArray)).size + (rdOf ByteArray.empty x3_1 x7_2).size) = False := eq_false (Nat.not_lt.2 c35)
                      try (have c35n := c35; simp only [ByteArray.size_append, ByteArray.size, List.size_toArray, List.length_cons, List.length_nil, Nat.zero_add, Nat.reduceAdd] at c35n; simp at c35n; have c35n0 := eq_true c35n; have c35n1 := eq_false (Nat.not_lt.2 c35n); have c35n2 := decide_eq_true c35n)
                      have H' := Aside0.mk H
                      clear H
                      obtain ⟨Ao36, co36, eo36⟩ := Kd.R_slice HO_3.out
                      subst eo36
                      have p133 : 0 ≤ (x7_2 : Int) := of_decide_eq_true (by first | (with_reducible assumption) | assumption)
                      have q133 : x7_2 < (x3_1.length : Int) := of_decide_eq_true (by first | (with_reducible assumption) | assumption)
                      obtain ⟨ad133, e133, hx133_0⟩ := Kd.at_string (Kd.R_reads' HO_3.out).2.2 x7_2 p133 q133
                      cases e133
                      replace p133 := eq_true p133
                      replace q133 := eq_true q133
                      go_wp2
                      go_roundg k2
                      case measure => have := HK1.out; have := HK2.out; omega
                      case rel => exact ⟨((x6_2 ++ (⟨#[47]⟩ : ByteArray)) ++ (rdOf ByteArray.empty x3_1 x7_2)), (wrap64 (x7_2 + 1)), (by first | rfl | (simp; done) | (simp [*]; done)), (by first | rfl | (simp; done) | (simp [*]; done)), H', ⟨by have := HK1.out; have := HK2.out; omega⟩, ⟨by (with_reducible repeat (first | apply Kd.R_alloc | apply Kd.R_drewN | apply Kd.R_drew)); (first | exact HO_3.out | (have z_ := HO_3.out; simp only [own_map] at z_ ⊢; exact z_))⟩, ⟨by repeat (first | (with_reducible first | exact HB.out | apply below_alloc | apply pw_below_drewN | apply below_drew1) | exact HB.out)⟩⟩
                    · rw [if_neg c35] at H
                      exact absurd H (by simp)
                  · rw [if_neg c34] at H
                    exact absurd H (by simp)
                · rw [if_neg c33] at H
                  exact absurd H (by simp)
              · rw [if_neg c32] at H
                have c32b0 : decide (0 < x7_2) = false := decide_eq_false c32
                clear c32
                by_cases c37 : 0 ≤ x7_2
                · rw [if_pos c37] at H
                  have c37b0 : decide (0 ≤ x7_2) = true := decide_eq_true c37
                  clear c37
                  by_cases c38 : x6_2.size + (rdOf ByteArray.empty x3_1 x7_2).size ≤ 9223372036854775807
                  · rw [if_pos c38] at H
                    have c38b0 := eq_true c38
                    have c38b1 : decide (x6_2.size + (rdOf ByteArray.empty x3_1 x7_2).size ≤ 9223372036854775807) = true := decide_eq_true c38
                    try have c38b2 : (9223372036854775807 < x6_2.size + (rdOf ByteArray.empty x3_1 x7_2).size) = False := eq_false (Nat.not_lt.2 c38)
                    have H' := Aside0.mk H
                    clear H
                    obtain ⟨Ao39, co39, eo39⟩ := Kd.R_slice HO_3.out
                    subst eo39
                    have p134 : 0 ≤ (x7_2 : Int) := of_decide_eq_true (by first | (with_reducible assumption) | assumption)
                    have q134 : x7_2 < (x3_1.length : Int) := of_decide_eq_true (by first | (with_reducible assumption) | assumption)
                    obtain ⟨ad134, e134, hx134_0⟩ := Kd.at_string (Kd.R_reads' HO_3.out).2.2 x7_2 p134 q134
                    cases e134
                    replace p134 := eq_true p134
                    replace q134 := eq_true q134
                    go_wp2
                    go_roundg k2
                    case measure => have := HK1.out; have := HK2.out; omega
                    case rel => exact ⟨(x6_2 ++ (rdOf ByteArray.empty x3_1 x7_2)), (wrap64 (x7_2 + 1)), (by first | rfl | (simp; done) | (simp [*]; done)), (by first | rfl | (simp; done) | (simp [*]; done)), H', ⟨by have := HK1.out; have := HK2.out; omega⟩, ⟨by (with_reducible repeat (first | apply Kd.R_alloc | apply Kd.R_drewN | apply Kd.R_drew)); (first | exact HO_3.out | (have z_ := HO_3.out; simp only [own_map] at z_ ⊢; exact z_))⟩, ⟨by repeat (first | (with_reducible first | exact HB.out | apply below_alloc | apply pw_below_drewN | apply below_drew1) | exact HB.out)⟩⟩
                  · rw [if_neg c38] at H
                    exact absurd H (by simp)
                · rw [if_neg c37] at H
                  exact absurd H (by simp)
            · rw [if_neg c31] at H
              have c31b0 : decide (x7_2 < (x3_1.length : Int)) = false := decide_eq_false c31
              clear c31
              replace H := Option.bind_eq_some_iff.mp H
              obtain ⟨t135, A400, H⟩ := H
              replace H : (if t135 = true then (if 1 + x6_2.size ≤ 9223372036854775807 then (some ((⟨#[47]⟩ : ByteArray) ++ x6_2)) else (none)) else (if x6_2.toList = ([] : List UInt8) then (some (⟨#[46]⟩ : ByteArray)) else (some x6_2))) = some r := H
              have A40 := Aside0.mk A400
              clear A400
              by_cases c41 : t135 = true
              · subst c41
                have H1 : (if 1 + x6_2.size ≤ 9223372036854775807 then (some ((⟨#[47]⟩ : ByteArray) ++ x6_2)) else (none)) = some r := by rw [if_pos rfl] at H; exact H
                clear H
                have H := H1
                clear H1
                by_cases c42 : 1 + x6_2.size ≤ 9223372036854775807
                · rw [if_pos c42] at H
                  have c42b0 := eq_true c42
                  have c42b1 : decide (1 + x6_2.size ≤ 9223372036854775807) = true := decide_eq_true c42
                  try have c42b2 : (9223372036854775807 < 1 + x6_2.size) = False := eq_false (Nat.not_lt.2 c42)
                  obtain rfl := Option.some.inj H
                  obtain ⟨Ao43, co43, eo43⟩ := Kd.R_slice HO_3.out
                  subst eo43
                  go_wp2_with (first | ((with_reducible refine gate_callee (f := 36) rfl ?_); refine goesL_ (some 77) rfl rfl Try.func36 (by kernel_rfl) rfl #[.string a0] rfl (by (try simp only [List.map_toArray, List.map_cons, List.map_nil]); first | done | rfl | (simp only [List.length_drop, List.length_take]; rfl)) ?_; (with_reducible refine (spec_pathAhead.calls a0 true _ A40.out).mono ?_); rintro e w' ⟨rfl, ⟨nd, rfl⟩⟩; refine ⟨_, rfl, ?_⟩))
                  go_ret
                  exact ⟨by first | rfl | (simp [errW_none, errW_some] <;> rfl) | (simp [*, errW_none, errW_some] <;> rfl), by repeat (first | (with_reducible first | exact HB.out | apply below_alloc | apply pw_below_drewN | apply below_drew1) | exact HB.out)⟩
                · rw [if_neg c42] at H
                  exact absurd H (by simp)
              · replace c41 := Bool.eq_false_iff.mpr c41
                subst c41
                have H1 : (if x6_2.toList = ([] : List UInt8) then (some (⟨#[46]⟩ : ByteArray)) else (some x6_2)) = some r := by rw [if_neg (show ¬ (false = true) by decide)] at H; exact H
                clear H
                have H := H1
                clear H1
                by_cases c44 : x6_2.toList = ([] : List UInt8)
                · rw [if_pos c44] at H
                  have c44b0 : (x6_2.toList == ([] : List UInt8)) = true := beq_iff_eq.mpr c44
                  have c44b1 : (x6_2.toList != ([] : List UInt8)) = false := bne_eq_false_iff_eq.mpr c44
                  clear c44
                  obtain rfl := Option.some.inj H
                  obtain ⟨Ao45, co45, eo45⟩ := Kd.R_slice HO_3.out
                  subst eo45
                  go_wp2_with (first | ((with_reducible refine gate_callee (f := 36) rfl ?_); refine goesL_ (some 77) rfl rfl Try.func36 (by kernel_rfl) rfl #[.string a0] rfl (by (try simp only [List.map_toArray, List.map_cons, List.map_nil]); first | done | rfl | (simp only [List.length_drop, List.length_take]; rfl)) ?_; (with_reducible refine (spec_pathAhead.calls a0 false _ A40.out).mono ?_); rintro e w' ⟨rfl, ⟨nd, rfl⟩⟩; refine ⟨_, rfl, ?_⟩))
                  go_ret
                  exact ⟨by first | rfl | (simp [errW_none, errW_some] <;> rfl) | (simp [*, errW_none, errW_some] <;> rfl), by repeat (first | (with_reducible first | exact HB.out | apply below_alloc | apply pw_below_drewN | apply below_drew1) | exact HB.out)⟩
                · rw [if_neg c44] at H
                  have c44b0 : (x6_2.toList == ([] : List UInt8)) = false := beq_eq_false_iff_ne.mpr c44
                  have c44b1 : (x6_2.toList != ([] : List UInt8)) = true := bne_iff_ne.mpr c44
                  obtain rfl := Option.some.inj H
                  obtain ⟨Ao46, co46, eo46⟩ := Kd.R_slice HO_3.out
                  subst eo46
                  go_wp2_with (first | ((with_reducible refine gate_callee (f := 36) rfl ?_); refine goesL_ (some 77) rfl rfl Try.func36 (by kernel_rfl) rfl #[.string a0] rfl (by (try simp only [List.map_toArray, List.map_cons, List.map_nil]); first | done | rfl | (simp only [List.length_drop, List.length_take]; rfl)) ?_; (with_reducible refine (spec_pathAhead.calls a0 false _ A40.out).mono ?_); rintro e w' ⟨rfl, ⟨nd, rfl⟩⟩; refine ⟨_, rfl, ?_⟩))
                  go_ret
                  exact ⟨by first | rfl | (simp [errW_none, errW_some] <;> rfl) | (simp [*, errW_none, errW_some] <;> rfl), by repeat (first | (with_reducible first | exact HB.out | apply below_alloc | apply pw_below_drewN | apply below_drew1) | exact HB.out)⟩

/-! ### spec_SameFilePath: function 30 -/
def spec_SameFilePath.f (k : Nat) (a0 : ByteArray) (a1 : ByteArray) : Option (Bool) := (spec_ToSlashTrim.f k a0).bind fun t136 => ((spec_pathClean.f k t136).bind fun t137 => ((spec_ToSlashTrim.f k a1).bind fun t138 => ((spec_pathClean.f k t138).bind fun t139 => (some (t137.toList == t139.toList)))))
theorem spec_SameFilePath.mono : ∀ a0 a1 k, LeO (spec_SameFilePath.f k a0 a1) (spec_SameFilePath.f (k + 1) a0 a1) := by
  intro a0 a1 k
  unfold spec_SameFilePath.f
  repeat' first
      | (with_reducible exact spec_ToSlashTrim.mono _ _)
      | (with_reducible exact spec_pathClean.mono _ _)
      | (with_reducible exact LeO.refl _)
      | (with_reducible exact LeO.none _)
      | (with_reducible refine LeO.ite ?_ ?_)
      | (with_reducible refine LeO.bind ?_ (fun _ => ?_))
      | exact spec_ToSlashTrim.mono _ _
      | exact spec_pathClean.mono _ _
      | exact LeO.none _
      | refine LeO.ite ?_ ?_
      | refine LeO.bind ?_ (fun _ => ?_)
set_option maxHeartbeats 8000000 in
set_option maxRecDepth 100000 in
theorem spec_SameFilePath.calls (k : Nat) (a0 : ByteArray) (a1 : ByteArray) (r : Bool) (w : World) (h : spec_SameFilePath.f k a0 a1 = some r) :
    Calls Try.prog 30 #[.string a0, .string a1] w fun e w' => e = .returned (.bool r) ∧ Below w.heap.size w w' := by
  have HB := Aside0.mk (Below.refl w.heap.size w)
  have H : ((spec_ToSlashTrim.f k a0).bind fun t136 => ((spec_pathClean.f k t136).bind fun t137 => ((spec_ToSlashTrim.f k a1).bind fun t138 => ((spec_pathClean.f k t138).bind fun t139 => (some (t137.toList == t139.toList)))))) = some r := h
  clear h
  replace H := Option.bind_eq_some_iff.mp H
  obtain ⟨t136, A30, H⟩ := H
  replace H : ((spec_pathClean.f k t136).bind fun t137 => ((spec_ToSlashTrim.f k a1).bind fun t138 => ((spec_pathClean.f k t138).bind fun t139 => (some (t137.toList == t139.toList))))) = some r := H
  have A3 := Aside0.mk A30
  clear A30
  replace H := Option.bind_eq_some_iff.mp H
  obtain ⟨t137, A40, H⟩ := H
  replace H : ((spec_ToSlashTrim.f k a1).bind fun t138 => ((spec_pathClean.f k t138).bind fun t139 => (some (t137.toList == t139.toList)))) = some r := H
  have A4 := Aside0.mk A40
  clear A40
  replace H := Option.bind_eq_some_iff.mp H
  obtain ⟨t138, A50, H⟩ := H
  replace H : ((spec_pathClean.f k t138).bind fun t139 => (some (t137.toList == t139.toList))) = some r := H
  have A5 := Aside0.mk A50
  clear A50
  replace H := Option.bind_eq_some_iff.mp H
  obtain ⟨t139, A60, H⟩ := H
  replace H : (some (t137.toList == t139.toList)) = some r := H
  have A6 := Aside0.mk A60
  clear A60
  obtain rfl := Option.some.inj H
  go_enter Try.func30, Try.ntmps30
  go_wp2_with (first | ((with_reducible refine gate_callee (f := 20) rfl ?_); refine goesL_ (some 6) rfl rfl Try.func20 (by kernel_rfl) rfl #[.string a0] rfl (by (try simp only [List.map_toArray, List.map_cons, List.map_nil]); first | done | rfl | (simp only [List.length_drop, List.length_take]; rfl)) ?_; (with_reducible refine (spec_ToSlashTrim.calls k a0 t136 _ A3.out).mono ?_); rintro e w' ⟨rfl, ⟨nd, rfl⟩⟩; refine ⟨_, rfl, ?_⟩) | ((with_reducible refine gate_callee (f := 45) rfl ?_); refine goesL_ (some 7) rfl rfl Try.func45 (by kernel_rfl) rfl #[.string t136] rfl (by (try simp only [List.map_toArray, List.map_cons, List.map_nil]); first | done | rfl | (simp only [List.length_drop, List.length_take]; rfl)) ?_; (with_reducible refine (spec_pathClean.calls k t136 t137 _ A4.out).mono ?_); rintro e w7 ⟨rfl, hb⟩; refine ⟨_, rfl, ?_⟩; have n0_ := Aside0.mk (below_step (by repeat (first | (with_reducible first | exact HB.out | apply below_alloc | apply pw_below_drewN | apply below_drew1) | exact HB.out)) hb); clear HB; have HB := n0_; clear n0_; (try clear hb); (try clear hb2); (try clear hk); (try clear hi)) | ((with_reducible refine gate_callee (f := 20) rfl ?_); refine goesL_ (some 9) rfl rfl Try.func20 (by kernel_rfl) rfl #[.string a1] rfl (by (try simp only [List.map_toArray, List.map_cons, List.map_nil]); first | done | rfl | (simp only [List.length_drop, List.length_take]; rfl)) ?_; (with_reducible refine (spec_ToSlashTrim.calls k a1 t138 _ A5.out).mono ?_); rintro e w' ⟨rfl, ⟨nd, rfl⟩⟩; refine ⟨_, rfl, ?_⟩) | ((with_reducible refine gate_callee (f := 45) rfl ?_); refine goesL_ (some 10) rfl rfl Try.func45 (by kernel_rfl) rfl #[.string t138] rfl (by (try simp only [List.map_toArray, List.map_cons, List.map_nil]); first | done | rfl | (simp only [List.length_drop, List.length_take]; rfl)) ?_; (with_reducible refine (spec_pathClean.calls k t138 t139 _ A6.out).mono ?_); rintro e w8 ⟨rfl, hb⟩; refine ⟨_, rfl, ?_⟩; have n0_ := Aside0.mk (below_step (by repeat (first | (with_reducible first | exact HB.out | apply below_alloc | apply pw_below_drewN | apply below_drew1) | exact HB.out)) hb); clear HB; have HB := n0_; clear n0_; (try clear hb); (try clear hb2); (try clear hk); (try clear hi)))
  go_ret
  exact ⟨by first | rfl | (simp [errW_none, errW_some] <;> rfl) | (simp [*, errW_none, errW_some] <;> rfl), by repeat (first | (with_reducible first | exact HB.out | apply below_alloc | apply pw_below_drewN | apply below_drew1) | exact HB.out)⟩

end Go.Proofs.Ytckfbpgjegbmlaa.PFnSamePath
