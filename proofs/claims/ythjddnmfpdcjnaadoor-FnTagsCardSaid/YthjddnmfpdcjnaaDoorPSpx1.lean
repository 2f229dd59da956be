/- Printed by a program of this session (a printer turned to take contracts that were proved by hand): functions with the answers of the Go functions, and proofs that the code comes to these answers; no condition beyond what each theorem names. -/
import Derived.Test.YthjddnmfpdcjnaaDoorPSpx0
namespace Go.Proofs.YthjddnmfpdcjnaaDoor.PSp
open Go.RowKit Go.Proofs.YthjddnmfpdcjnaaDoorW.PrintWords Go.Proofs.YthjddnmfpdcjnaaDoorW.PrintLast Go.Proofs.YthjddnmfpdcjnaaDoorW.PrintMore
attribute [local go_sem] max2_int min2_int max_two min_two max_three min_three max_four min_four   -- for this text's walks alone
set_option linter.unusedVariables false
set_option linter.unusedSimpArgs false

/-! ### spec_tagLetter: function 44 -/
def spec_tagLetter.f (a0 : Int) : Option (Bool) := if a0 ≥ 97 then (if a0 ≤ 122 then (some true) else (if a0 ≥ 65 then (some (decide (a0 ≤ 90))) else (some false))) else (if a0 ≥ 65 then (some (decide (a0 ≤ 90))) else (some false))
set_option maxHeartbeats 8000000 in
set_option maxRecDepth 100000 in
theorem spec_tagLetter.calls (a0 : Int) (r : Bool) (w : World) (h : spec_tagLetter.f a0 = some r) :
    Calls Tryd.prog 44 #[.int .u8 a0] w fun e w' => e = .returned (.bool r) ∧ Drawn0 w w' := by
  have H : (if a0 ≥ 97 then (if a0 ≤ 122 then (some true) else (if a0 ≥ 65 then (some (decide (a0 ≤ 90))) else (some false))) else (if a0 ≥ 65 then (some (decide (a0 ≤ 90))) else (some false))) = some r := h
  clear h
  by_cases c2 : a0 ≥ 97
  · rw [if_pos c2] at H
    have c2b0 : decide (97 ≤ a0) = true := decide_eq_true c2
    clear c2
    by_cases c3 : a0 ≤ 122
    · rw [if_pos c3] at H
      have c3b0 : decide (a0 ≤ 122) = true := decide_eq_true c3
      clear c3
      obtain rfl := Option.some.inj H
      go_enter Tryd.func44, Tryd.ntmps44
      go_wp2
      go_ret
      exact ⟨by first | rfl | (simp; done) | (simp [*]; done), by repeat (first | exact Drawn0.refl _ | apply Drawn0.step)⟩
    · rw [if_neg c3] at H
      have c3b0 : decide (a0 ≤ 122) = false := decide_eq_false c3
      clear c3
      by_cases c4 : a0 ≥ 65
      · rw [if_pos c4] at H
        have c4b0 : decide (65 ≤ a0) = true := decide_eq_true c4
        clear c4
        obtain rfl := Option.some.inj H
        go_enter Tryd.func44, Tryd.ntmps44
        go_wp2
        go_ret
        exact ⟨by first | rfl | (simp; done) | (simp [*]; done), by repeat (first | exact Drawn0.refl _ | apply Drawn0.step)⟩
      · rw [if_neg c4] at H
        have c4b0 : decide (65 ≤ a0) = false := decide_eq_false c4
        clear c4
        obtain rfl := Option.some.inj H
        go_enter Tryd.func44, Tryd.ntmps44
        go_wp2
        go_ret
        exact ⟨by first | rfl | (simp; done) | (simp [*]; done), by repeat (first | exact Drawn0.refl _ | apply Drawn0.step)⟩
  · rw [if_neg c2] at H
    have c2b0 : decide (97 ≤ a0) = false := decide_eq_false c2
    clear c2
    by_cases c5 : a0 ≥ 65
    · rw [if_pos c5] at H
      have c5b0 : decide (65 ≤ a0) = true := decide_eq_true c5
      clear c5
      obtain rfl := Option.some.inj H
      go_enter Tryd.func44, Tryd.ntmps44
      go_wp2
      go_ret
      exact ⟨by first | rfl | (simp; done) | (simp [*]; done), by repeat (first | exact Drawn0.refl _ | apply Drawn0.step)⟩
    · rw [if_neg c5] at H
      have c5b0 : decide (65 ≤ a0) = false := decide_eq_false c5
      clear c5
      obtain rfl := Option.some.inj H
      go_enter Tryd.func44, Tryd.ntmps44
      go_wp2
      go_ret
      exact ⟨by first | rfl | (simp; done) | (simp [*]; done), by repeat (first | exact Drawn0.refl _ | apply Drawn0.step)⟩

/-! ### spec_tagBlank: function 50 -/
def spec_tagBlank.f (a0 : Int) : Option (Bool) := if a0 = 32 then (some true) else (if a0 = 9 then (some true) else (if a0 = 10 then (some true) else (if a0 = 13 then (some true) else (some (a0 == 12)))))
set_option maxHeartbeats 8000000 in
set_option maxRecDepth 100000 in
theorem spec_tagBlank.calls (a0 : Int) (r : Bool) (w : World) (h : spec_tagBlank.f a0 = some r) :
    Calls Tryd.prog 50 #[.int .u8 a0] w fun e w' => e = .returned (.bool r) ∧ Drawn0 w w' := by
  have H : (if a0 = 32 then (some true) else (if a0 = 9 then (some true) else (if a0 = 10 then (some true) else (if a0 = 13 then (some true) else (some (a0 == 12)))))) = some r := h
  clear h
  by_cases c2 : a0 = 32
  · rw [if_pos c2] at H
    have c2b0 : (a0 == 32) = true := beq_iff_eq.mpr c2
    have c2b1 : (a0 != 32) = false := bne_eq_false_iff_eq.mpr c2
    clear c2
    obtain rfl := Option.some.inj H
    go_enter Tryd.func50, Tryd.ntmps50
    go_wp2
    go_ret
    exact ⟨by first | rfl | (simp; done) | (simp [*]; done), by repeat (first | exact Drawn0.refl _ | apply Drawn0.step)⟩
  · rw [if_neg c2] at H
    have c2b0 : (a0 == 32) = false := beq_eq_false_iff_ne.mpr c2
    have c2b1 : (a0 != 32) = true := bne_iff_ne.mpr c2
    by_cases c3 : a0 = 9
    · rw [if_pos c3] at H
      have c3b0 : (a0 == 9) = true := beq_iff_eq.mpr c3
      have c3b1 : (a0 != 9) = false := bne_eq_false_iff_eq.mpr c3
      clear c3
      obtain rfl := Option.some.inj H
      go_enter Tryd.func50, Tryd.ntmps50
      go_wp2
      go_ret
      exact ⟨by first | rfl | (simp; done) | (simp [*]; done), by repeat (first | exact Drawn0.refl _ | apply Drawn0.step)⟩
    · rw [if_neg c3] at H
      have c3b0 : (a0 == 9) = false := beq_eq_false_iff_ne.mpr c3
      have c3b1 : (a0 != 9) = true := bne_iff_ne.mpr c3
      by_cases c4 : a0 = 10
      · rw [if_pos c4] at H
        have c4b0 : (a0 == 10) = true := beq_iff_eq.mpr c4
        have c4b1 : (a0 != 10) = false := bne_eq_false_iff_eq.mpr c4
        clear c4
        obtain rfl := Option.some.inj H
        go_enter Tryd.func50, Tryd.ntmps50
        go_wp2
        go_ret
        exact ⟨by first | rfl | (simp; done) | (simp [*]; done), by repeat (first | exact Drawn0.refl _ | apply Drawn0.step)⟩
      · rw [if_neg c4] at H
        have c4b0 : (a0 == 10) = false := beq_eq_false_iff_ne.mpr c4
        have c4b1 : (a0 != 10) = true := bne_iff_ne.mpr c4
        by_cases c5 : a0 = 13
        · rw [if_pos c5] at H
          have c5b0 : (a0 == 13) = true := beq_iff_eq.mpr c5
          have c5b1 : (a0 != 13) = false := bne_eq_false_iff_eq.mpr c5
          clear c5
          obtain rfl := Option.some.inj H
          go_enter Tryd.func50, Tryd.ntmps50
          go_wp2
          go_ret
          exact ⟨by first | rfl | (simp; done) | (simp [*]; done), by repeat (first | exact Drawn0.refl _ | apply Drawn0.step)⟩
        · rw [if_neg c5] at H
          have c5b0 : (a0 == 13) = false := beq_eq_false_iff_ne.mpr c5
          have c5b1 : (a0 != 13) = true := bne_iff_ne.mpr c5
          obtain rfl := Option.some.inj H
          go_enter Tryd.func50, Tryd.ntmps50
          go_wp2
          go_ret
          exact ⟨by first | rfl | (simp; done) | (simp [*]; done), by repeat (first | exact Drawn0.refl _ | apply Drawn0.step)⟩

/-! ### spec_tagName: function 45 -/
def spec_tagName.l0 : Nat → ByteArray → Int → Int → Option (ByteArray × Int)
  | 0, _, _, _ => none
  | k + 1, x0, x1, x6 => if x6 < (x0.size : Int) then (if 0 ≤ x6 then ((spec_tagBlank.f (bt x0 x6)).bind fun t101 => (if t101 = true then (if 0 ≤ x1 then (if x1 ≤ x6 then (if x6 ≤ (x0.size : Int) then ((spec_tagLower.f (x0.extract (x1 : Int).toNat (x6 : Int).toNat)).bind fun t102 => (some (t102, x6))) else (none)) else (none)) else (none)) else (if (bt x0 x6) = 47 then (if 0 ≤ x1 then (if x1 ≤ x6 then (if x6 ≤ (x0.size : Int) then ((spec_tagLower.f (x0.extract (x1 : Int).toNat (x6 : Int).toNat)).bind fun t103 => (some (t103, x6))) else (none)) else (none)) else (none)) else (if (bt x0 x6) = 62 then (if 0 ≤ x1 then (if x1 ≤ x6 then (if x6 ≤ (x0.size : Int) then ((spec_tagLower.f (x0.extract (x1 : Int).toNat (x6 : Int).toNat)).bind fun t104 => (some (t104, x6))) else (none)) else (none)) else (none)) else (spec_tagName.l0 k x0 x1 (wrap64 (x6 + 1))))))) else (none)) else (if 0 ≤ x1 then (if x1 ≤ x6 then (if x6 ≤ (x0.size : Int) then ((spec_tagLower.f (x0.extract (x1 : Int).toNat (x6 : Int).toNat)).bind fun t105 => (some (t105, x6))) else (none)) else (none)) else (none))
def spec_tagName.f (k : Nat) (a0 : ByteArray) (a1 : Int) : Option (ByteArray × Int) := spec_tagName.l0 k a0 a1 a1
theorem spec_tagName.mono_l : ∀ k, (∀ y0 y1 y2, LeO (spec_tagName.l0 k y0 y1 y2) (spec_tagName.l0 (k + 1) y0 y1 y2))
  | 0 => fun _ _ _ r h => by simp [spec_tagName.l0] at h
  | k + 1 => by
    have ih0 := spec_tagName.mono_l k
    · intro y0 y1 y2
      unfold spec_tagName.l0
      repeat' first
      | (with_reducible exact ih0 _ _ _)
      | (with_reducible exact LeO.refl _)
      | (with_reducible exact LeO.none _)
      | (with_reducible refine LeO.ite ?_ ?_)
      | (with_reducible refine LeO.bind ?_ (fun _ => ?_))
      | exact ih0 _ _ _
      | exact LeO.none _
      | refine LeO.ite ?_ ?_
      | refine LeO.bind ?_ (fun _ => ?_)
theorem spec_tagName.mono : ∀ a0 a1 k, LeO (spec_tagName.f k a0 a1) (spec_tagName.f (k + 1) a0 a1) := by
  intro a0 a1 k
  have ih0 := spec_tagName.mono_l k
  unfold spec_tagName.f
  repeat' first
      | (with_reducible exact ih0 _ _ _)
      | (with_reducible exact LeO.refl _)
      | (with_reducible exact LeO.none _)
      | (with_reducible refine LeO.ite ?_ ?_)
      | (with_reducible refine LeO.bind ?_ (fun _ => ?_))
      | exact ih0 _ _ _
      | exact LeO.none _
      | refine LeO.ite ?_ ?_
      | refine LeO.bind ?_ (fun _ => ?_)
set_option maxHeartbeats 8000000 in
set_option maxRecDepth 100000 in
theorem spec_tagName.calls (k : Nat) (a0 : ByteArray) (a1 : Int) (r1 : ByteArray) (r2 : Int) (w : World) (h : spec_tagName.f k a0 a1 = some (r1, r2)) :
    Calls Tryd.prog 45 #[.string a0, .int .i64 a1] w fun e w' => e = .returned (.tuple #[.string r1, .int .i64 r2]) ∧ Below w.heap.size w w' := by
  have HB := Aside0.mk (Below.refl w.heap.size w)
  have H : (spec_tagName.l0 k a0 a1 a1) = some (r1, r2) := h
  clear h
  have H' := Aside0.mk H
  clear H
  go_enter Tryd.func45, Tryd.ntmps45
  go_wp2
  try simp only [Act.put, List.setIfInBounds_toArray, List.set_cons_succ, List.set_cons_zero]
  go_loopg [6] k (fun kq v6 w' => ∃ (x6_1 : Int), v6 = .int .i64 x6_1 ∧ Aside0 (spec_tagName.l0 kq a0 a1 x6_1 = some (r1, r2)) ∧ Aside0 (kq ≤ k) ∧ Aside0 (Below w.heap.size w w'))
  case atStart => exact ⟨(a1), (by first | rfl | (simp; done) | (simp [*]; done)), H', ⟨Nat.le_refl _⟩, ⟨by repeat (first | (with_reducible first | exact HB.out | apply below_alloc | apply pw_below_drewN | apply below_drew1) | exact HB.out)⟩⟩
  case round =>
    clear H'
    try clear p2
    obtain ⟨x6_1, rfl, HA, HK1, HB⟩ := hrel
    cases gk with
    | zero => exact absurd HA.out (by simp [spec_tagName.l0])
    | succ k1 =>
      have H := HA.out
      clear HA
      simp only [spec_tagName.l0] at H
      by_cases c3 : x6_1 < (a0.size : Int)
      · rw [if_pos c3] at H
        have c3b0 : decide (x6_1 < (a0.size : Int)) = true := decide_eq_true c3
        clear c3
        by_cases c4 : 0 ≤ x6_1
        · rw [if_pos c4] at H
          have c4b0 : decide (0 ≤ x6_1) = true := decide_eq_true c4
          clear c4
          replace H := Option.bind_eq_some_iff.mp H
          obtain ⟨t101, A60, H⟩ := H
          replace H : (if t101 = true then (if 0 ≤ a1 then (if a1 ≤ x6_1 then (if x6_1 ≤ (a0.size : Int) then ((spec_tagLower.f (a0.extract (a1 : Int).toNat (x6_1 : Int).toNat)).bind fun t102 => (some (t102, x6_1))) else (none)) else (none)) else (none)) else (if (bt a0 x6_1) = 47 then (if 0 ≤ a1 then (if a1 ≤ x6_1 then (if x6_1 ≤ (a0.size : Int) then ((spec_tagLower.f (a0.extract (a1 : Int).toNat (x6_1 : Int).toNat)).bind fun t103 => (some (t103, x6_1))) else (none)) else (none)) else (none)) else (if (bt a0 x6_1) = 62 then (if 0 ≤ a1 then (if a1 ≤ x6_1 then (if x6_1 ≤ (a0.size : Int) then ((spec_tagLower.f (a0.extract (a1 : Int).toNat (x6_1 : Int).toNat)).bind fun t104 => (some (t104, x6_1))) else (none)) else (none)) else (none)) else (spec_tagName.l0 k1 a0 a1 (wrap64 (x6_1 + 1)))))) = some (r1, r2) := H
          have A6 := Aside0.mk A60
          clear A60
          by_cases c7 : t101 = true
          · subst c7
            have H1 : (if 0 ≤ a1 then (if a1 ≤ x6_1 then (if x6_1 ≤ (a0.size : Int) then ((spec_tagLower.f (a0.extract (a1 : Int).toNat (x6_1 : Int).toNat)).bind fun t102 => (some (t102, x6_1))) else (none)) else (none)) else (none)) = some (r1, r2) := by rw [if_pos rfl] at H; exact H
            clear H
            have H := H1
            clear H1
            by_cases c8 : 0 ≤ a1
            · rw [if_pos c8] at H
              have c8b0 := eq_true c8
              have c8b1 : decide (0 ≤ a1) = true := decide_eq_true c8
              clear c8
              by_cases c9 : a1 ≤ x6_1
              · rw [if_pos c9] at H
                have c9b0 := eq_true c9
                have c9b1 : decide (a1 ≤ x6_1) = true := decide_eq_true c9
                clear c9
                by_cases c10 : x6_1 ≤ (a0.size : Int)
                · rw [if_pos c10] at H
                  have c10b0 := eq_true c10
                  have c10b1 : decide (x6_1 ≤ (a0.size : Int)) = true := decide_eq_true c10
                  clear c10
                  replace H := Option.bind_eq_some_iff.mp H
                  obtain ⟨t102, A110, H⟩ := H
                  replace H : (some (t102, x6_1)) = some (r1, r2) := H
                  have A11 := Aside0.mk A110
                  clear A110
                  simp only [Option.some.injEq, Prod.mk.injEq] at H
                  obtain ⟨rfl, rfl⟩ := H
                  have p5 : 0 ≤ (x6_1 : Int) := of_decide_eq_true (by first | (with_reducible assumption) | assumption)
                  have q5 : x6_1 < (a0.size : Int) := of_decide_eq_true (by first | (with_reducible assumption) | assumption)
                  have hx5 := bt_at a0 x6_1
                  replace p5 := eq_true p5
                  replace q5 := eq_true q5
                  go_wp2_with (first | (go_at_call 50; (with_reducible refine (spec_tagBlank.calls (bt a0 x6_1) true _ A6.out).mono ?_); rintro e w' ⟨rfl, ⟨nd, rfl⟩⟩) | ((with_reducible refine gate_callee (f := 49) rfl ?_); refine goesL_ (some 37) rfl rfl Tryd.func49 (by kernel_rfl) rfl #[.string (a0.extract (a1 : Int).toNat (x6_1 : Int).toNat)] rfl (by (try simp only [List.map_toArray, List.map_cons, List.map_nil]); first | done | rfl | (simp only [List.length_drop, List.length_take]; rfl)) ?_; (with_reducible refine (spec_tagLower.calls (a0.extract (a1 : Int).toNat (x6_1 : Int).toNat) t102 _ A11.out).mono ?_); rintro e w12 ⟨rfl, hb⟩; refine ⟨_, rfl, ?_⟩; have n0_ := Aside0.mk (below_step (by repeat (first | (with_reducible first | exact HB.out | apply below_alloc | apply pw_below_drewN | apply below_drew1) | exact HB.out)) hb); clear HB; have HB := n0_; clear n0_; (try clear hb); (try clear hb2); (try clear hk); (try clear hi)))
                  go_ret2
                  exact ⟨by first | rfl | (simp [errW_none, errW_some] <;> rfl) | (simp [*, errW_none, errW_some] <;> rfl), by repeat (first | (with_reducible first | exact HB.out | apply below_alloc | apply pw_below_drewN | apply below_drew1) | exact HB.out)⟩
                · rw [if_neg c10] at H
                  exact absurd H (by simp)
              · rw [if_neg c9] at H
                exact absurd H (by simp)
            · rw [if_neg c8] at H
              exact absurd H (by simp)
          · replace c7 := Bool.eq_false_iff.mpr c7
            subst c7
            have H1 : (if (bt a0 x6_1) = 47 then (if 0 ≤ a1 then (if a1 ≤ x6_1 then (if x6_1 ≤ (a0.size : Int) then ((spec_tagLower.f (a0.extract (a1 : Int).toNat (x6_1 : Int).toNat)).bind fun t103 => (some (t103, x6_1))) else (none)) else (none)) else (none)) else (if (bt a0 x6_1) = 62 then (if 0 ≤ a1 then (if a1 ≤ x6_1 then (if x6_1 ≤ (a0.size : Int) then ((spec_tagLower.f (a0.extract (a1 : Int).toNat (x6_1 : Int).toNat)).bind fun t104 => (some (t104, x6_1))) else (none)) else (none)) else (none)) else (spec_tagName.l0 k1 a0 a1 (wrap64 (x6_1 + 1))))) = some (r1, r2) := by rw [if_neg (show ¬ (false = true) by decide)] at H; exact H
            clear H
            have H := H1
            clear H1
            by_cases c14 : (bt a0 x6_1) = 47
            · rw [if_pos c14] at H
              have c14b0 : ((bt a0 x6_1) == 47) = true := beq_iff_eq.mpr c14
              have c14b1 : ((bt a0 x6_1) != 47) = false := bne_eq_false_iff_eq.mpr c14
              clear c14
              by_cases c15 : 0 ≤ a1
              · rw [if_pos c15] at H
                have c15b0 := eq_true c15
                have c15b1 : decide (0 ≤ a1) = true := decide_eq_true c15
                clear c15
                by_cases c16 : a1 ≤ x6_1
                · rw [if_pos c16] at H
                  have c16b0 := eq_true c16
                  have c16b1 : decide (a1 ≤ x6_1) = true := decide_eq_true c16
                  clear c16
                  by_cases c17 : x6_1 ≤ (a0.size : Int)
                  · rw [if_pos c17] at H
                    have c17b0 := eq_true c17
                    have c17b1 : decide (x6_1 ≤ (a0.size : Int)) = true := decide_eq_true c17
                    clear c17
                    replace H := Option.bind_eq_some_iff.mp H
                    obtain ⟨t103, A180, H⟩ := H
                    replace H : (some (t103, x6_1)) = some (r1, r2) := H
                    have A18 := Aside0.mk A180
                    clear A180
                    simp only [Option.some.injEq, Prod.mk.injEq] at H
                    obtain ⟨rfl, rfl⟩ := H
                    have p5 : 0 ≤ (x6_1 : Int) := of_decide_eq_true (by first | (with_reducible assumption) | assumption)
                    have q5 : x6_1 < (a0.size : Int) := of_decide_eq_true (by first | (with_reducible assumption) | assumption)
                    have hx5 := bt_at a0 x6_1
                    replace p5 := eq_true p5
                    replace q5 := eq_true q5
                    go_wp2_with (first | (go_at_call 50; (with_reducible refine (spec_tagBlank.calls (bt a0 x6_1) false _ A6.out).mono ?_); rintro e w' ⟨rfl, ⟨nd, rfl⟩⟩; have p13 : 0 ≤ (x6_1 : Int) := of_decide_eq_true (by first | (with_reducible assumption) | assumption); have q13 : x6_1 < (a0.size : Int) := of_decide_eq_true (by first | (with_reducible assumption) | assumption); have hx13 := bt_at a0 x6_1; replace p13 := eq_true p13; replace q13 := eq_true q13) | ((with_reducible refine gate_callee (f := 49) rfl ?_); refine goesL_ (some 37) rfl rfl Tryd.func49 (by kernel_rfl) rfl #[.string (a0.extract (a1 : Int).toNat (x6_1 : Int).toNat)] rfl (by (try simp only [List.map_toArray, List.map_cons, List.map_nil]); first | done | rfl | (simp only [List.length_drop, List.length_take]; rfl)) ?_; (with_reducible refine (spec_tagLower.calls (a0.extract (a1 : Int).toNat (x6_1 : Int).toNat) t103 _ A18.out).mono ?_); rintro e w19 ⟨rfl, hb⟩; refine ⟨_, rfl, ?_⟩; have n0_ := Aside0.mk (below_step (by repeat (first | (with_reducible first | exact HB.out | apply below_alloc | apply pw_below_drewN | apply below_drew1) | exact HB.out)) hb); clear HB; have HB := n0_; clear n0_; (try clear hb); (try clear hb2); (try clear hk); (try clear hi)))
                    go_ret2
                    exact ⟨by first | rfl | (simp [errW_none, errW_some] <;> rfl) | (simp [*, errW_none, errW_some] <;> rfl), by repeat (first | (with_reducible first | exact HB.out | apply below_alloc | apply pw_below_drewN | apply below_drew1) | exact HB.out)⟩
                  · rw [if_neg c17] at H
                    exact absurd H (by simp)
                · rw [if_neg c16] at H
                  exact absurd H (by simp)
              · rw [if_neg c15] at H
                exact absurd H (by simp)
            · rw [if_neg c14] at H
              have c14b0 : ((bt a0 x6_1) == 47) = false := beq_eq_false_iff_ne.mpr c14
              have c14b1 : ((bt a0 x6_1) != 47) = true := bne_iff_ne.mpr c14
              by_cases c21 : (bt a0 x6_1) = 62
              · rw [if_pos c21] at H
                have c21b0 : ((bt a0 x6_1) == 62) = true := beq_iff_eq.mpr c21
                have c21b1 : ((bt a0 x6_1) != 62) = false := bne_eq_false_iff_eq.mpr c21
                clear c21
                by_cases c22 : 0 ≤ a1
                · rw [if_pos c22] at H
                  have c22b0 := eq_true c22
                  have c22b1 : decide (0 ≤ a1) = true := decide_eq_true c22
                  clear c22
                  by_cases c23 : a1 ≤ x6_1
                  · rw [if_pos c23] at H
                    have c23b0 := eq_true c23
                    have c23b1 : decide (a1 ≤ x6_1) = true := decide_eq_true c23
                    clear c23
                    by_cases c24 : x6_1 ≤ (a0.size : Int)
                    · rw [if_pos c24] at H
                      have c24b0 := eq_true c24
                      have c24b1 : decide (x6_1 ≤ (a0.size : Int)) = true := decide_eq_true c24
                      clear c24
                      replace H := Option.bind_eq_some_iff.mp H
                      obtain ⟨t104, A250, H⟩ := H
                      replace H : (some (t104, x6_1)) = some (r1, r2) := H
                      have A25 := Aside0.mk A250
                      clear A250
                      simp only [Option.some.injEq, Prod.mk.injEq] at H
                      obtain ⟨rfl, rfl⟩ := H
                      have p5 : 0 ≤ (x6_1 : Int) := of_decide_eq_true (by first | (with_reducible assumption) | assumption)
                      have q5 : x6_1 < (a0.size : Int) := of_decide_eq_true (by first | (with_reducible assumption) | assumption)
                      have hx5 := bt_at a0 x6_1
                      replace p5 := eq_true p5
                      replace q5 := eq_true q5
                      go_wp2_with (first | (go_at_call 50; (with_reducible refine (spec_tagBlank.calls (bt a0 x6_1) false _ A6.out).mono ?_); rintro e w' ⟨rfl, ⟨nd, rfl⟩⟩; have p13 : 0 ≤ (x6_1 : Int) := of_decide_eq_true (by first | (with_reducible assumption) | assumption); have q13 : x6_1 < (a0.size : Int) := of_decide_eq_true (by first | (with_reducible assumption) | assumption); have hx13 := bt_at a0 x6_1; replace p13 := eq_true p13; replace q13 := eq_true q13; have p20 : 0 ≤ (x6_1 : Int) := of_decide_eq_true (by first | (with_reducible assumption) | assumption); have q20 : x6_1 < (a0.size : Int) := of_decide_eq_true (by first | (with_reducible assumption) | assumption); have hx20 := bt_at a0 x6_1; replace p20 := eq_true p20; replace q20 := eq_true q20) | ((with_reducible refine gate_callee (f := 49) rfl ?_); refine goesL_ (some 37) rfl rfl Tryd.func49 (by kernel_rfl) rfl #[.string (a0.extract (a1 : Int).toNat (x6_1 : Int).toNat)] rfl (by (try simp only [List.map_toArray, List.map_cons, List.map_nil]); first | done | rfl | (simp only [List.length_drop, List.length_take]; rfl)) ?_; (with_reducible refine (spec_tagLower.calls (a0.extract (a1 : Int).toNat (x6_1 : Int).toNat) t104 _ A25.out).mono ?_); rintro e w26 ⟨rfl, hb⟩; refine ⟨_, rfl, ?_⟩; have n0_ := Aside0.mk (below_step (by repeat (first | (with_reducible first | exact HB.out | apply below_alloc | apply pw_below_drewN | apply below_drew1) | exact HB.out)) hb); clear HB; have HB := n0_; clear n0_; (try clear hb); (try clear hb2); (try clear hk); (try clear hi)))
                      go_ret2
                      exact ⟨by first | rfl | (simp [errW_none, errW_some] <;> rfl) | (simp [*, errW_none, errW_some] <;> rfl), by repeat (first | (with_reducible first | exact HB.out | apply below_alloc | apply pw_below_drewN | apply below_drew1) | exact HB.out)⟩
                    · rw [if_neg c24] at H
                      exact absurd H (by simp)
                  · rw [if_neg c23] at H
                    exact absurd H (by simp)
                · rw [if_neg c22] at H
                  exact absurd H (by simp)
              · rw [if_neg c21] at H
                have c21b0 : ((bt a0 x6_1) == 62) = false := beq_eq_false_iff_ne.mpr c21
                have c21b1 : ((bt a0 x6_1) != 62) = true := bne_iff_ne.mpr c21
                have H' := Aside0.mk H
                clear H
                have p5 : 0 ≤ (x6_1 : Int) := of_decide_eq_true (by first | (with_reducible assumption) | assumption)
                have q5 : x6_1 < (a0.size : Int) := of_decide_eq_true (by first | (with_reducible assumption) | assumption)
                have hx5 := bt_at a0 x6_1
                replace p5 := eq_true p5
                replace q5 := eq_true q5
                go_wp2_with (first | (go_at_call 50; (with_reducible refine (spec_tagBlank.calls (bt a0 x6_1) false _ A6.out).mono ?_); rintro e w' ⟨rfl, ⟨nd, rfl⟩⟩; have p13 : 0 ≤ (x6_1 : Int) := of_decide_eq_true (by first | (with_reducible assumption) | assumption); have q13 : x6_1 < (a0.size : Int) := of_decide_eq_true (by first | (with_reducible assumption) | assumption); have hx13 := bt_at a0 x6_1; replace p13 := eq_true p13; replace q13 := eq_true q13; have p20 : 0 ≤ (x6_1 : Int) := of_decide_eq_true (by first | (with_reducible assumption) | assumption); have q20 : x6_1 < (a0.size : Int) := of_decide_eq_true (by first | (with_reducible assumption) | assumption); have hx20 := bt_at a0 x6_1; replace p20 := eq_true p20; replace q20 := eq_true q20))
                go_roundg k1
                case measure => have := HK1.out; omega
                case rel => exact ⟨(wrap64 (x6_1 + 1)), (by first | rfl | (simp; done) | (simp [*]; done)), H', ⟨by have := HK1.out; omega⟩, ⟨by repeat (first | (with_reducible first | exact HB.out | apply below_alloc | apply pw_below_drewN | apply below_drew1) | exact HB.out)⟩⟩
        · rw [if_neg c4] at H
          exact absurd H (by simp)
      · rw [if_neg c3] at H
        have c3b0 : decide (x6_1 < (a0.size : Int)) = false := decide_eq_false c3
        clear c3
        by_cases c27 : 0 ≤ a1
        · rw [if_pos c27] at H
          have c27b0 := eq_true c27
          have c27b1 : decide (0 ≤ a1) = true := decide_eq_true c27
          clear c27
          by_cases c28 : a1 ≤ x6_1
          · rw [if_pos c28] at H
            have c28b0 := eq_true c28
            have c28b1 : decide (a1 ≤ x6_1) = true := decide_eq_true c28
            clear c28
            by_cases c29 : x6_1 ≤ (a0.size : Int)
            · rw [if_pos c29] at H
              have c29b0 := eq_true c29
              have c29b1 : decide (x6_1 ≤ (a0.size : Int)) = true := decide_eq_true c29
              clear c29
              replace H := Option.bind_eq_some_iff.mp H
              obtain ⟨t105, A300, H⟩ := H
              replace H : (some (t105, x6_1)) = some (r1, r2) := H
              have A30 := Aside0.mk A300
              clear A300
              simp only [Option.some.injEq, Prod.mk.injEq] at H
              obtain ⟨rfl, rfl⟩ := H
              go_wp2_with (first | ((with_reducible refine gate_callee (f := 49) rfl ?_); refine goesL_ (some 37) rfl rfl Tryd.func49 (by kernel_rfl) rfl #[.string (a0.extract (a1 : Int).toNat (x6_1 : Int).toNat)] rfl (by (try simp only [List.map_toArray, List.map_cons, List.map_nil]); first | done | rfl | (simp only [List.length_drop, List.length_take]; rfl)) ?_; (with_reducible refine (spec_tagLower.calls (a0.extract (a1 : Int).toNat (x6_1 : Int).toNat) t105 _ A30.out).mono ?_); rintro e w31 ⟨rfl, hb⟩; refine ⟨_, rfl, ?_⟩; have n0_ := Aside0.mk (below_step (by repeat (first | (with_reducible first | exact HB.out | apply below_alloc | apply pw_below_drewN | apply below_drew1) | exact HB.out)) hb); clear HB; have HB := n0_; clear n0_; (try clear hb); (try clear hb2); (try clear hk); (try clear hi)))
              go_ret2
              exact ⟨by first | rfl | (simp [errW_none, errW_some] <;> rfl) | (simp [*, errW_none, errW_some] <;> rfl), by repeat (first | (with_reducible first | exact HB.out | apply below_alloc | apply pw_below_drewN | apply below_drew1) | exact HB.out)⟩
            · rw [if_neg c29] at H
              exact absurd H (by simp)
          · rw [if_neg c28] at H
            exact absurd H (by simp)
        · rw [if_neg c27] at H
          exact absurd H (by simp)

/-! ### spec_tagClose: function 46 -/
mutual
def spec_tagClose.l0 : Nat → ByteArray → Int → Bool → Option (Int)
  | 0, _, _, _ => none
  | k + 1, x0, x1, x5 => if x1 < (x0.size : Int) then (if 0 ≤ x1 then (if (bt x0 x1) = 62 then (some x1) else (if x5 = true then (if (bt x0 x1) = 34 then (spec_tagClose.j1 k x0 x1 x5 (bt x0 x1) true) else (spec_tagClose.j1 k x0 x1 x5 (bt x0 x1) ((bt x0 x1) == 39))) else (spec_tagClose.j1 k x0 x1 x5 (bt x0 x1) false))) else (none)) else (some (x0.size : Int))
def spec_tagClose.j1 : Nat → ByteArray → Int → Bool → Int → Bool → Option (Int)
  | 0, _, _, _, _, _ => none
  | k + 1, x0, x1, x5, x6, x18 => if x18 = true then (spec_tagClose.l1 k x0 (wrap64 (x1 + 1)) x6) else (if x6 = 61 then (spec_tagClose.l0 k x0 (wrap64 (x1 + 1)) true) else ((spec_tagBlank.f x6).bind fun t106 => (if t106 = true then (spec_tagClose.l0 k x0 (wrap64 (x1 + 1)) x5) else (spec_tagClose.l0 k x0 (wrap64 (x1 + 1)) false))))
def spec_tagClose.l1 : Nat → ByteArray → Int → Int → Option (Int)
  | 0, _, _, _ => none
  | k + 1, x0, x1, x6 => if x1 < (x0.size : Int) then (if 0 ≤ x1 then (if (bt x0 x1) = x6 then (spec_tagClose.l0 k x0 (wrap64 (x1 + 1)) false) else (spec_tagClose.l1 k x0 (wrap64 (x1 + 1)) x6)) else (none)) else (spec_tagClose.l0 k x0 (wrap64 (x1 + 1)) false)
end
def spec_tagClose.f (k : Nat) (a0 : ByteArray) (a1 : Int) : Option (Int) := spec_tagClose.l0 k a0 a1 false
theorem spec_tagClose.mono_l : ∀ k, (∀ y0 y1 y2, LeO (spec_tagClose.l0 k y0 y1 y2) (spec_tagClose.l0 (k + 1) y0 y1 y2)) ∧ (∀ y0 y1 y2 y3 y4, LeO (spec_tagClose.j1 k y0 y1 y2 y3 y4) (spec_tagClose.j1 (k + 1) y0 y1 y2 y3 y4)) ∧ (∀ y0 y1 y2, LeO (spec_tagClose.l1 k y0 y1 y2) (spec_tagClose.l1 (k + 1) y0 y1 y2))
  | 0 => ⟨fun _ _ _ r h => by simp [spec_tagClose.l0] at h, fun _ _ _ _ _ r h => by simp [spec_tagClose.j1] at h, fun _ _ _ r h => by simp [spec_tagClose.l1] at h⟩
  | k + 1 => by
    obtain ⟨ih0, ih1, ih2⟩ := spec_tagClose.mono_l k
    refine ⟨?_, ?_, ?_⟩
    · intro y0 y1 y2
      unfold spec_tagClose.l0
      repeat' first
      | (with_reducible exact ih0 _ _ _)
      | (with_reducible exact ih1 _ _ _ _ _)
      | (with_reducible exact ih2 _ _ _)
      | (with_reducible exact LeO.refl _)
      | (with_reducible exact LeO.none _)
      | (with_reducible refine LeO.ite ?_ ?_)
      | (with_reducible refine LeO.bind ?_ (fun _ => ?_))
      | exact ih0 _ _ _
      | exact ih1 _ _ _ _ _
      | exact ih2 _ _ _
      | exact LeO.none _
      | refine LeO.ite ?_ ?_
      | refine LeO.bind ?_ (fun _ => ?_)
    · intro y0 y1 y2 y3 y4
      unfold spec_tagClose.j1
      repeat' first
      | (with_reducible exact ih0 _ _ _)
      | (with_reducible exact ih1 _ _ _ _ _)
      | (with_reducible exact ih2 _ _ _)
      | (with_reducible exact LeO.refl _)
      | (with_reducible exact LeO.none _)
      | (with_reducible refine LeO.ite ?_ ?_)
      | (with_reducible refine LeO.bind ?_ (fun _ => ?_))
      | exact ih0 _ _ _
      | exact ih1 _ _ _ _ _
      | exact ih2 _ _ _
      | exact LeO.none _
      | refine LeO.ite ?_ ?_
      | refine LeO.bind ?_ (fun _ => ?_)
    · intro y0 y1 y2
      unfold spec_tagClose.l1
      repeat' first
      | (with_reducible exact ih0 _ _ _)
      | (with_reducible exact ih1 _ _ _ _ _)
      | (with_reducible exact ih2 _ _ _)
      | (with_reducible exact LeO.refl _)
      | (with_reducible exact LeO.none _)
      | (with_reducible refine LeO.ite ?_ ?_)
      | (with_reducible refine LeO.bind ?_ (fun _ => ?_))
      | exact ih0 _ _ _
      | exact ih1 _ _ _ _ _
      | exact ih2 _ _ _
      | exact LeO.none _
      | refine LeO.ite ?_ ?_
      | refine LeO.bind ?_ (fun _ => ?_)
theorem spec_tagClose.mono : ∀ a0 a1 k, LeO (spec_tagClose.f k a0 a1) (spec_tagClose.f (k + 1) a0 a1) := by
  intro a0 a1 k
  obtain ⟨ih0, ih1, ih2⟩ := spec_tagClose.mono_l k
  unfold spec_tagClose.f
  repeat' first
      | (with_reducible exact ih0 _ _ _)
      | (with_reducible exact ih1 _ _ _ _ _)
      | (with_reducible exact ih2 _ _ _)
      | (with_reducible exact LeO.refl _)
      | (with_reducible exact LeO.none _)
      | (with_reducible refine LeO.ite ?_ ?_)
      | (with_reducible refine LeO.bind ?_ (fun _ => ?_))
      | exact ih0 _ _ _
      | exact ih1 _ _ _ _ _
      | exact ih2 _ _ _
      | exact LeO.none _
      | refine LeO.ite ?_ ?_
      | refine LeO.bind ?_ (fun _ => ?_)
set_option maxHeartbeats 8000000 in
set_option maxRecDepth 100000 in
theorem spec_tagClose.calls (k : Nat) (a0 : ByteArray) (a1 : Int) (r : Int) (w : World) (h : spec_tagClose.f k a0 a1 = some r) :
    Calls Tryd.prog 46 #[.string a0, .int .i64 a1] w fun e w' => e = .returned (.int .i64 r) ∧ Drawn0 w w' := by
  have H : (spec_tagClose.l0 k a0 a1 false) = some r := h
  clear h
  have H' := Aside0.mk H
  clear H
  go_enter Tryd.func46, Tryd.ntmps46
  go_wp2
  try simp only [Act.put, List.setIfInBounds_toArray, List.set_cons_succ, List.set_cons_zero]
  go_loopg [1, 5] k (fun kq v1 v5 w' => ∃ (x1_1 : Int) (x5_1 : Bool), v1 = .int .i64 x1_1 ∧ v5 = .bool x5_1 ∧ Aside0 (spec_tagClose.l0 kq a0 x1_1 x5_1 = some r) ∧ Aside0 (kq ≤ k) ∧ Drawn0 w w')
  case atStart => exact ⟨(a1), (false), (by first | rfl | (simp; done) | (simp [*]; done)), (by first | rfl | (simp; done) | (simp [*]; done)), H', ⟨Nat.le_refl _⟩, by repeat (first | exact Drawn0.refl _ | apply Drawn0.step)⟩
  case round =>
    clear H'
    try clear p2
    obtain ⟨x1_1, x5_1, rfl, rfl, HA, HK1, ⟨m1, rfl⟩⟩ := hrel
    cases gk with
    | zero => exact absurd HA.out (by simp [spec_tagClose.l0])
    | succ k1 =>
      have H := HA.out
      clear HA
      simp only [spec_tagClose.l0] at H
      by_cases c3 : x1_1 < (a0.size : Int)
      · rw [if_pos c3] at H
        have c3b0 : decide (x1_1 < (a0.size : Int)) = true := decide_eq_true c3
        clear c3
        by_cases c4 : 0 ≤ x1_1
        · rw [if_pos c4] at H
          have c4b0 : decide (0 ≤ x1_1) = true := decide_eq_true c4
          clear c4
          by_cases c6 : (bt a0 x1_1) = 62
          · rw [if_pos c6] at H
            have c6b0 : ((bt a0 x1_1) == 62) = true := beq_iff_eq.mpr c6
            have c6b1 : ((bt a0 x1_1) != 62) = false := bne_eq_false_iff_eq.mpr c6
            clear c6
            obtain rfl := Option.some.inj H
            have p5 : 0 ≤ (x1_1 : Int) := of_decide_eq_true (by first | (with_reducible assumption) | assumption)
            have q5 : x1_1 < (a0.size : Int) := of_decide_eq_true (by first | (with_reducible assumption) | assumption)
            have hx5 := bt_at a0 x1_1
            replace p5 := eq_true p5
            replace q5 := eq_true q5
            go_wp2
            go_ret
            exact ⟨by first | rfl | (simp; done) | (simp [*]; done), by repeat (first | exact Drawn0.refl _ | apply Drawn0.step)⟩
          · rw [if_neg c6] at H
            have c6b0 : ((bt a0 x1_1) == 62) = false := beq_eq_false_iff_ne.mpr c6
            have c6b1 : ((bt a0 x1_1) != 62) = true := bne_iff_ne.mpr c6
            have HC7 := Aside0.mk H
            clear H
            have p5 : 0 ≤ (x1_1 : Int) := of_decide_eq_true (by first | (with_reducible assumption) | assumption)
            have q5 : x1_1 < (a0.size : Int) := of_decide_eq_true (by first | (with_reducible assumption) | assumption)
            have hx5 := bt_at a0 x1_1
            replace p5 := eq_true p5
            replace q5 := eq_true q5
            go_upto_region 6 with (fail)
            go_cut [18] (fun v18 wc => ∃ (kq : Nat) (x18_6 : Bool), v18 = .bool x18_6 ∧ Aside0 (spec_tagClose.j1 kq a0 x1_1 x5_1 (bt a0 x1_1) x18_6 = some r) ∧ Aside0 (kq ≤ k1) ∧ Drawn0 w wc)
            case first =>
              have H := HC7.out
              clear HC7
              by_cases c8 : x5_1 = true
              · subst c8
                have H1 : (if (bt a0 x1_1) = 34 then (spec_tagClose.j1 k1 a0 x1_1 true (bt a0 x1_1) true) else (spec_tagClose.j1 k1 a0 x1_1 true (bt a0 x1_1) ((bt a0 x1_1) == 39))) = some r := by rw [if_pos rfl] at H; exact H
                clear H
                have H := H1
                clear H1
                by_cases c9 : (bt a0 x1_1) = 34
                · rw [if_pos c9] at H
                  have c9b0 : ((bt a0 x1_1) == 34) = true := beq_iff_eq.mpr c9
                  have c9b1 : ((bt a0 x1_1) != 34) = false := bne_eq_false_iff_eq.mpr c9
                  clear c9
                  (first | rw [c9b0] | (simp only [i64_w, i32_w]; rw [c9b0]) | skip)
                  have H' := Aside0.mk H
                  clear H
                  go_wp2
                  go_meet
                  case rel => exact ⟨_, (true), (by first | rfl | (simp; done) | (simp [*]; done)), H', ⟨by have := HK1.out; first | omega | exact Nat.le_refl _⟩, by repeat (first | exact Drawn0.refl _ | apply Drawn0.step)⟩
                · rw [if_neg c9] at H
                  have c9b0 : ((bt a0 x1_1) == 34) = false := beq_eq_false_iff_ne.mpr c9
                  have c9b1 : ((bt a0 x1_1) != 34) = true := bne_iff_ne.mpr c9
                  (first | rw [c9b0] | (simp only [i64_w, i32_w]; rw [c9b0]) | skip)
                  have H' := Aside0.mk H
                  clear H
                  go_wp2
                  go_meet
                  case rel => exact ⟨_, (((bt a0 x1_1) == 39)), (by first | rfl | (simp; done) | (simp [*]; done)), H', ⟨by have := HK1.out; first | omega | exact Nat.le_refl _⟩, by repeat (first | exact Drawn0.refl _ | apply Drawn0.step)⟩
              · replace c8 := Bool.eq_false_iff.mpr c8
                subst c8
                have H1 : (spec_tagClose.j1 k1 a0 x1_1 false (bt a0 x1_1) false) = some r := by rw [if_neg (show ¬ (false = true) by decide)] at H; exact H
                clear H
                have H := H1
                clear H1
                have H' := Aside0.mk H
                clear H
                go_wp2
                go_meet
                case rel => exact ⟨_, (false), (by first | rfl | (simp; done) | (simp [*]; done)), H', ⟨by have := HK1.out; first | omega | exact Nat.le_refl _⟩, by repeat (first | exact Drawn0.refl _ | apply Drawn0.step)⟩
            case rest =>
              clear HC7
              try clear p2
              try clear c3
              try clear c3b0
              try clear c4
              try clear c4b0
              try clear p5
              try clear q5
              try clear hx5
              try clear c6
              try clear c6b0
              try clear c6b1
              try clear c8
              try clear c9
              try clear c9b0
              try clear c9b1
              try clear p2
              try clear p5
              try clear q5
              obtain ⟨kq, x18_6, rfl, HA, HJ6, ⟨mc6, rfl⟩⟩ := hcut
              cases kq with
              | zero => exact absurd HA.out (by simp [spec_tagClose.j1])
              | succ kj6 =>
                have H := HA.out
                clear HA
                simp only [spec_tagClose.j1] at H
                by_cases c10 : x18_6 = true
                · subst c10
                  have H1 : (spec_tagClose.l1 kj6 a0 (wrap64 (x1_1 + 1)) (bt a0 x1_1)) = some r := by rw [if_pos rfl] at H; exact H
                  clear H
                  have H := H1
                  clear H1
                  have H' := Aside0.mk H
                  clear H
                  go_wp2
                  try simp only [Act.put, List.setIfInBounds_toArray, List.set_cons_succ, List.set_cons_zero]
                  go_loopg [1] kj6 (fun kq v1 w' => ∃ (x1_3 : Int), v1 = .int .i64 x1_3 ∧ Aside0 (spec_tagClose.l1 kq a0 x1_3 (bt a0 x1_1) = some r) ∧ Aside0 (kq ≤ kj6) ∧ Drawn0 w w')
                  case atStart => exact ⟨(wrap64 (x1_1 + 1)), (by first | rfl | (simp; done) | (simp [*]; done)), H', ⟨Nat.le_refl _⟩, by repeat (first | exact Drawn0.refl _ | apply Drawn0.step)⟩
                  case round =>
                    clear H'
                    try clear c1
                    try clear p2
                    try clear c3
                    try clear c3b0
                    try clear c4
                    try clear c4b0
                    try clear p5
                    try clear q5
                    try clear hx5
                    try clear c6
                    try clear c6b0
                    try clear c6b1
                    try clear p6
                    try clear c8
                    try clear c9
                    try clear c9b0
                    try clear c9b1
                    try clear c10
                    try clear p2
                    try clear p5
                    try clear q5
                    obtain ⟨x1_3, rfl, HA, HK3, ⟨m3, rfl⟩⟩ := hrel
                    cases gk with
                    | zero => exact absurd HA.out (by simp [spec_tagClose.l1])
                    | succ k3 =>
                      have H := HA.out
                      clear HA
                      simp only [spec_tagClose.l1] at H
                      by_cases c11 : x1_3 < (a0.size : Int)
                      · rw [if_pos c11] at H
                        have c11b0 : decide (x1_3 < (a0.size : Int)) = true := decide_eq_true c11
                        clear c11
                        by_cases c12 : 0 ≤ x1_3
                        · rw [if_pos c12] at H
                          have c12b0 : decide (0 ≤ x1_3) = true := decide_eq_true c12
                          clear c12
                          by_cases c14 : (bt a0 x1_3) = (bt a0 x1_1)
                          · rw [if_pos c14] at H
                            have c14b0 : ((bt a0 x1_3) == (bt a0 x1_1)) = true := beq_iff_eq.mpr c14
                            have c14b1 : ((bt a0 x1_3) != (bt a0 x1_1)) = false := bne_eq_false_iff_eq.mpr c14
                            clear c14
                            have H' := Aside0.mk H
                            clear H
                            have p13 : 0 ≤ (x1_3 : Int) := of_decide_eq_true (by first | (with_reducible assumption) | assumption)
                            have q13 : x1_3 < (a0.size : Int) := of_decide_eq_true (by first | (with_reducible assumption) | assumption)
                            have hx13 := bt_at a0 x1_3
                            replace p13 := eq_true p13
                            replace q13 := eq_true q13
                            go_wp2
                            go_roundg k3
                            case measure => have := HK1.out; have := HJ6.out; have := HK3.out; omega
                            case rel => exact ⟨(wrap64 (x1_3 + 1)), (false), (by first | rfl | (simp; done) | (simp [*]; done)), (by first | rfl | (simp; done) | (simp [*]; done)), H', ⟨by have := HK1.out; have := HJ6.out; have := HK3.out; omega⟩, by repeat (first | exact Drawn0.refl _ | apply Drawn0.step)⟩
                          · rw [if_neg c14] at H
                            have c14b0 : ((bt a0 x1_3) == (bt a0 x1_1)) = false := beq_eq_false_iff_ne.mpr c14
                            have c14b1 : ((bt a0 x1_3) != (bt a0 x1_1)) = true := bne_iff_ne.mpr c14
                            have H' := Aside0.mk H
                            clear H
                            have p13 : 0 ≤ (x1_3 : Int) := of_decide_eq_true (by first | (with_reducible assumption) | assumption)
                            have q13 : x1_3 < (a0.size : Int) := of_decide_eq_true (by first | (with_reducible assumption) | assumption)
                            have hx13 := bt_at a0 x1_3
                            replace p13 := eq_true p13
                            replace q13 := eq_true q13
                            go_wp2
                            go_roundg k3
                            case measure => have := HK1.out; have := HJ6.out; have := HK3.out; omega
                            case rel => exact ⟨(wrap64 (x1_3 + 1)), (by first | rfl | (simp; done) | (simp [*]; done)), H', ⟨by have := HK1.out; have := HJ6.out; have := HK3.out; omega⟩, by repeat (first | exact Drawn0.refl _ | apply Drawn0.step)⟩
                        · rw [if_neg c12] at H
                          exact absurd H (by simp)
                      · rw [if_neg c11] at H
                        have c11b0 : decide (x1_3 < (a0.size : Int)) = false := decide_eq_false c11
                        clear c11
                        have H' := Aside0.mk H
                        clear H
                        go_wp2
                        go_roundg k3
                        case measure => have := HK1.out; have := HJ6.out; have := HK3.out; omega
                        case rel => exact ⟨(wrap64 (x1_3 + 1)), (false), (by first | rfl | (simp; done) | (simp [*]; done)), (by first | rfl | (simp; done) | (simp [*]; done)), H', ⟨by have := HK1.out; have := HJ6.out; have := HK3.out; omega⟩, by repeat (first | exact Drawn0.refl _ | apply Drawn0.step)⟩
                · replace c10 := Bool.eq_false_iff.mpr c10
                  subst c10
                  have H1 : (if (bt a0 x1_1) = 61 then (spec_tagClose.l0 kj6 a0 (wrap64 (x1_1 + 1)) true) else ((spec_tagBlank.f (bt a0 x1_1)).bind fun t106 => (if t106 = true then (spec_tagClose.l0 kj6 a0 (wrap64 (x1_1 + 1)) x5_1) else (spec_tagClose.l0 kj6 a0 (wrap64 (x1_1 + 1)) false)))) = some r := by rw [if_neg (show ¬ (false = true) by decide)] at H; exact H
                  clear H
                  have H := H1
                  clear H1
                  by_cases c15 : (bt a0 x1_1) = 61
                  · rw [if_pos c15] at H
                    have c15b0 : ((bt a0 x1_1) == 61) = true := beq_iff_eq.mpr c15
                    have c15b1 : ((bt a0 x1_1) != 61) = false := bne_eq_false_iff_eq.mpr c15
                    clear c15
                    have H' := Aside0.mk H
                    clear H
                    go_wp2
                    go_roundg kj6
                    case measure => have := HK1.out; have := HJ6.out; omega
                    case rel => exact ⟨(wrap64 (x1_1 + 1)), (true), (by first | rfl | (simp; done) | (simp [*]; done)), (by first | rfl | (simp; done) | (simp [*]; done)), H', ⟨by have := HK1.out; have := HJ6.out; omega⟩, by repeat (first | exact Drawn0.refl _ | apply Drawn0.step)⟩
                  · rw [if_neg c15] at H
                    have c15b0 : ((bt a0 x1_1) == 61) = false := beq_eq_false_iff_ne.mpr c15
                    have c15b1 : ((bt a0 x1_1) != 61) = true := bne_iff_ne.mpr c15
                    replace H := Option.bind_eq_some_iff.mp H
                    obtain ⟨t106, A160, H⟩ := H
                    replace H : (if t106 = true then (spec_tagClose.l0 kj6 a0 (wrap64 (x1_1 + 1)) x5_1) else (spec_tagClose.l0 kj6 a0 (wrap64 (x1_1 + 1)) false)) = some r := H
                    have A16 := Aside0.mk A160
                    clear A160
                    by_cases c17 : t106 = true
                    · subst c17
                      have H1 : (spec_tagClose.l0 kj6 a0 (wrap64 (x1_1 + 1)) x5_1) = some r := by rw [if_pos rfl] at H; exact H
                      clear H
                      have H := H1
                      clear H1
                      have H' := Aside0.mk H
                      clear H
                      go_wp2_with (first | ((with_reducible refine gate_callee (f := 50) rfl ?_); refine goesL_ (some 48) rfl rfl Tryd.func50 (by kernel_rfl) rfl #[.int .u8 (bt a0 x1_1)] rfl (by (try simp only [List.map_toArray, List.map_cons, List.map_nil]); first | done | rfl | (simp only [List.length_drop, List.length_take]; rfl)) ?_; (with_reducible refine (spec_tagBlank.calls (bt a0 x1_1) true _ A16.out).mono ?_); rintro e w' ⟨rfl, ⟨nd, rfl⟩⟩; refine ⟨_, rfl, ?_⟩))
                      go_roundg kj6
                      case measure => have := HK1.out; have := HJ6.out; omega
                      case rel => exact ⟨(wrap64 (x1_1 + 1)), (x5_1), (by first | rfl | (simp; done) | (simp [*]; done)), (by first | rfl | (simp; done) | (simp [*]; done)), H', ⟨by have := HK1.out; have := HJ6.out; omega⟩, by repeat (first | exact Drawn0.refl _ | apply Drawn0.step)⟩
                    · replace c17 := Bool.eq_false_iff.mpr c17
                      subst c17
                      have H1 : (spec_tagClose.l0 kj6 a0 (wrap64 (x1_1 + 1)) false) = some r := by rw [if_neg (show ¬ (false = true) by decide)] at H; exact H
                      clear H
                      have H := H1
                      clear H1
                      have H' := Aside0.mk H
                      clear H
                      go_wp2_with (first | ((with_reducible refine gate_callee (f := 50) rfl ?_); refine goesL_ (some 48) rfl rfl Tryd.func50 (by kernel_rfl) rfl #[.int .u8 (bt a0 x1_1)] rfl (by (try simp only [List.map_toArray, List.map_cons, List.map_nil]); first | done | rfl | (simp only [List.length_drop, List.length_take]; rfl)) ?_; (with_reducible refine (spec_tagBlank.calls (bt a0 x1_1) false _ A16.out).mono ?_); rintro e w' ⟨rfl, ⟨nd, rfl⟩⟩; refine ⟨_, rfl, ?_⟩))
                      go_roundg kj6
                      case measure => have := HK1.out; have := HJ6.out; omega
                      case rel => exact ⟨(wrap64 (x1_1 + 1)), (false), (by first | rfl | (simp; done) | (simp [*]; done)), (by first | rfl | (simp; done) | (simp [*]; done)), H', ⟨by have := HK1.out; have := HJ6.out; omega⟩, by repeat (first | exact Drawn0.refl _ | apply Drawn0.step)⟩
        · rw [if_neg c4] at H
          exact absurd H (by simp)
      · rw [if_neg c3] at H
        have c3b0 : decide (x1_1 < (a0.size : Int)) = false := decide_eq_false c3
        clear c3
        obtain rfl := Option.some.inj H
        go_wp2
        go_ret
        exact ⟨by first | rfl | (simp; done) | (simp [*]; done), by repeat (first | exact Drawn0.refl _ | apply Drawn0.step)⟩

/-! ### spec_tagAt: function 47 -/
def spec_tagAt.f (a0 : ByteArray) (a1 : Int) (a2 : ByteArray) : Option (Bool) := if a1 ≥ 0 then (if (wrap64 (a1 + (a2.size : Int))) ≤ (a0.size : Int) then (if 0 ≤ a1 then (if a1 ≤ (wrap64 (a1 + (a2.size : Int))) then (some ((a0.extract (a1 : Int).toNat ((wrap64 (a1 + (a2.size : Int))) : Int).toNat).toList == a2.toList)) else (none)) else (none)) else (some false)) else (some false)
set_option maxHeartbeats 8000000 in
set_option maxRecDepth 100000 in
theorem spec_tagAt.calls (a0 : ByteArray) (a1 : Int) (a2 : ByteArray) (r : Bool) (w : World) (h : spec_tagAt.f a0 a1 a2 = some r) :
    Calls Tryd.prog 47 #[.string a0, .int .i64 a1, .string a2] w fun e w' => e = .returned (.bool r) ∧ Drawn0 w w' := by
  have H : (if a1 ≥ 0 then (if (wrap64 (a1 + (a2.size : Int))) ≤ (a0.size : Int) then (if 0 ≤ a1 then (if a1 ≤ (wrap64 (a1 + (a2.size : Int))) then (some ((a0.extract (a1 : Int).toNat ((wrap64 (a1 + (a2.size : Int))) : Int).toNat).toList == a2.toList)) else (none)) else (none)) else (some false)) else (some false)) = some r := h
  clear h
  by_cases c4 : a1 ≥ 0
  · rw [if_pos c4] at H
    have c4b0 : decide (0 ≤ a1) = true := decide_eq_true c4
    clear c4
    by_cases c5 : (wrap64 (a1 + (a2.size : Int))) ≤ (a0.size : Int)
    · rw [if_pos c5] at H
      have c5b0 : decide ((wrap64 (a1 + (a2.size : Int))) ≤ (a0.size : Int)) = true := decide_eq_true c5
      clear c5
      by_cases c6 : 0 ≤ a1
      · rw [if_pos c6] at H
        have c6b0 := eq_true c6
        have c6b1 : decide (0 ≤ a1) = true := decide_eq_true c6
        clear c6
        by_cases c7 : a1 ≤ (wrap64 (a1 + (a2.size : Int)))
        · rw [if_pos c7] at H
          have c7b0 := eq_true c7
          have c7b1 : decide (a1 ≤ (wrap64 (a1 + (a2.size : Int)))) = true := decide_eq_true c7
          have c8b0 := eq_true (of_decide_eq_true (by first | (with_reducible assumption) | assumption) : (wrap64 (a1 + (a2.size : Int))) ≤ (a0.size : Int))
          obtain rfl := Option.some.inj H
          go_enter Tryd.func47, Tryd.ntmps47
          go_wp2
          go_ret
          exact ⟨by first | rfl | (simp; done) | (simp [*]; done), by repeat (first | exact Drawn0.refl _ | apply Drawn0.step)⟩
        · rw [if_neg c7] at H
          exact absurd H (by simp)
      · rw [if_neg c6] at H
        exact absurd H (by simp)
    · rw [if_neg c5] at H
      have c5b0 : decide ((wrap64 (a1 + (a2.size : Int))) ≤ (a0.size : Int)) = false := decide_eq_false c5
      clear c5
      obtain rfl := Option.some.inj H
      go_enter Tryd.func47, Tryd.ntmps47
      go_wp2
      go_ret
      exact ⟨by first | rfl | (simp; done) | (simp [*]; done), by repeat (first | exact Drawn0.refl _ | apply Drawn0.step)⟩
  · rw [if_neg c4] at H
    have c4b0 : decide (0 ≤ a1) = false := decide_eq_false c4
    clear c4
    obtain rfl := Option.some.inj H
    go_enter Tryd.func47, Tryd.ntmps47
    go_wp2
    go_ret
    exact ⟨by first | rfl | (simp; done) | (simp [*]; done), by repeat (first | exact Drawn0.refl _ | apply Drawn0.step)⟩

/-! ### spec_tagFind: function 48 -/
def spec_tagFind.l0 : Nat → ByteArray → Int → ByteArray → Option (Int)
  | 0, _, _, _ => none
  | k + 1, x0, x1, x2 => if (wrap64 (x1 + (x2.size : Int))) ≤ (x0.size : Int) then (if 0 ≤ x1 then (if x1 ≤ (wrap64 (x1 + (x2.size : Int))) then (if (x0.extract (x1 : Int).toNat ((wrap64 (x1 + (x2.size : Int))) : Int).toNat).toList = x2.toList then (some (wrap64 (x1 + (x2.size : Int)))) else (spec_tagFind.l0 k x0 (wrap64 (x1 + 1)) x2)) else (none)) else (none)) else (some (x0.size : Int))
def spec_tagFind.f (k : Nat) (a0 : ByteArray) (a1 : Int) (a2 : ByteArray) : Option (Int) := spec_tagFind.l0 k a0 a1 a2
theorem spec_tagFind.mono_l : ∀ k, (∀ y0 y1 y2, LeO (spec_tagFind.l0 k y0 y1 y2) (spec_tagFind.l0 (k + 1) y0 y1 y2))
  | 0 => fun _ _ _ r h => by simp [spec_tagFind.l0] at h
  | k + 1 => by
    have ih0 := spec_tagFind.mono_l k
    · intro y0 y1 y2
      unfold spec_tagFind.l0
      repeat' first
      | (with_reducible exact ih0 _ _ _)
      | (with_reducible exact LeO.refl _)
      | (with_reducible exact LeO.none _)
      | (with_reducible refine LeO.ite ?_ ?_)
      | (with_reducible refine LeO.bind ?_ (fun _ => ?_))
      | exact ih0 _ _ _
      | exact LeO.none _
      | refine LeO.ite ?_ ?_
      | refine LeO.bind ?_ (fun _ => ?_)
theorem spec_tagFind.mono : ∀ a0 a1 a2 k, LeO (spec_tagFind.f k a0 a1 a2) (spec_tagFind.f (k + 1) a0 a1 a2) := by
  intro a0 a1 a2 k
  have ih0 := spec_tagFind.mono_l k
  unfold spec_tagFind.f
  repeat' first
      | (with_reducible exact ih0 _ _ _)
      | (with_reducible exact LeO.refl _)
      | (with_reducible exact LeO.none _)
      | (with_reducible refine LeO.ite ?_ ?_)
      | (with_reducible refine LeO.bind ?_ (fun _ => ?_))
      | exact ih0 _ _ _
      | exact LeO.none _
      | refine LeO.ite ?_ ?_
      | refine LeO.bind ?_ (fun _ => ?_)
set_option maxHeartbeats 8000000 in
set_option maxRecDepth 100000 in
theorem spec_tagFind.calls (k : Nat) (a0 : ByteArray) (a1 : Int) (a2 : ByteArray) (r : Int) (w : World) (h : spec_tagFind.f k a0 a1 a2 = some r) :
    Calls Tryd.prog 48 #[.string a0, .int .i64 a1, .string a2] w fun e w' => e = .returned (.int .i64 r) ∧ Drawn0 w w' := by
  have H : (spec_tagFind.l0 k a0 a1 a2) = some r := h
  clear h
  have H' := Aside0.mk H
  clear H
  go_enter Tryd.func48, Tryd.ntmps48
  go_wp2
  try simp only [Act.put, List.setIfInBounds_toArray, List.set_cons_succ, List.set_cons_zero]
  go_loopg [1] k (fun kq v1 w' => ∃ (x1_1 : Int), v1 = .int .i64 x1_1 ∧ Aside0 (spec_tagFind.l0 kq a0 x1_1 a2 = some r) ∧ Aside0 (kq ≤ k) ∧ Drawn0 w w')
  case atStart => exact ⟨(a1), (by first | rfl | (simp; done) | (simp [*]; done)), H', ⟨Nat.le_refl _⟩, by repeat (first | exact Drawn0.refl _ | apply Drawn0.step)⟩
  case round =>
    clear H'
    try clear p2
    obtain ⟨x1_1, rfl, HA, HK1, ⟨m1, rfl⟩⟩ := hrel
    cases gk with
    | zero => exact absurd HA.out (by simp [spec_tagFind.l0])
    | succ k1 =>
      have H := HA.out
      clear HA
      simp only [spec_tagFind.l0] at H
      by_cases c4 : (wrap64 (x1_1 + (a2.size : Int))) ≤ (a0.size : Int)
      · rw [if_pos c4] at H
        have c4b0 : decide ((wrap64 (x1_1 + (a2.size : Int))) ≤ (a0.size : Int)) = true := decide_eq_true c4
        clear c4
        by_cases c5 : 0 ≤ x1_1
        · rw [if_pos c5] at H
          have c5b0 := eq_true c5
          have c5b1 : decide (0 ≤ x1_1) = true := decide_eq_true c5
          clear c5
          by_cases c6 : x1_1 ≤ (wrap64 (x1_1 + (a2.size : Int)))
          · rw [if_pos c6] at H
            have c6b0 := eq_true c6
            have c6b1 : decide (x1_1 ≤ (wrap64 (x1_1 + (a2.size : Int)))) = true := decide_eq_true c6
            have c7b0 := eq_true (of_decide_eq_true (by first | (with_reducible assumption) | assumption) : (wrap64 (x1_1 + (a2.size : Int))) ≤ (a0.size : Int))
            by_cases c8 : (a0.extract (x1_1 : Int).toNat ((wrap64 (x1_1 + (a2.size : Int))) : Int).toNat).toList = a2.toList
            · rw [if_pos c8] at H
              have c8b0 : ((a0.extract (x1_1 : Int).toNat ((wrap64 (x1_1 + (a2.size : Int))) : Int).toNat).toList == a2.toList) = true := beq_iff_eq.mpr c8
              have c8b1 : ((a0.extract (x1_1 : Int).toNat ((wrap64 (x1_1 + (a2.size : Int))) : Int).toNat).toList != a2.toList) = false := bne_eq_false_iff_eq.mpr c8
              clear c8
              obtain rfl := Option.some.inj H
              go_wp2
              go_ret
              exact ⟨by first | rfl | (simp; done) | (simp [*]; done), by repeat (first | exact Drawn0.refl _ | apply Drawn0.step)⟩
            · rw [if_neg c8] at H
              have c8b0 : ((a0.extract (x1_1 : Int).toNat ((wrap64 (x1_1 + (a2.size : Int))) : Int).toNat).toList == a2.toList) = false := beq_eq_false_iff_ne.mpr c8
              have c8b1 : ((a0.extract (x1_1 : Int).toNat ((wrap64 (x1_1 + (a2.size : Int))) : Int).toNat).toList != a2.toList) = true := bne_iff_ne.mpr c8
              have H' := Aside0.mk H
              clear H
              go_wp2
              go_roundg k1
              case measure => have := HK1.out; omega
              case rel => exact ⟨(wrap64 (x1_1 + 1)), (by first | rfl | (simp; done) | (simp [*]; done)), H', ⟨by have := HK1.out; omega⟩, by repeat (first | exact Drawn0.refl _ | apply Drawn0.step)⟩
          · rw [if_neg c6] at H
            exact absurd H (by simp)
        · rw [if_neg c5] at H
          exact absurd H (by simp)
      · rw [if_neg c4] at H
        have c4b0 : decide ((wrap64 (x1_1 + (a2.size : Int))) ≤ (a0.size : Int)) = false := decide_eq_false c4
        clear c4
        obtain rfl := Option.some.inj H
        go_wp2
        go_ret
        exact ⟨by first | rfl | (simp; done) | (simp [*]; done), by repeat (first | exact Drawn0.refl _ | apply Drawn0.step)⟩

end Go.Proofs.YthjddnmfpdcjnaaDoor.PSp
