/- Printed by a program of this session (a printer turned to take contracts that were proved by hand): functions with the answers of the Go functions, and proofs that the code comes to these answers; no condition beyond what each theorem names. -/
import Derived.Test.YtgcadmofjblaeaaDoorPLib5x0
namespace Go.Proofs.YtgcadmofjblaeaaDoor.PLib5
open Go.RowKit Go.Proofs.YtgcadmofjblaeaaDoorW.PrintWords Go.Proofs.YtgcadmofjblaeaaDoorW.PrintLast Go.Proofs.YtgcadmofjblaeaaDoorW.PrintMore
attribute [local go_sem] max2_int min2_int max_two min_two max_three min_three max_four min_four   -- for this text's walks alone
set_option linter.unusedVariables false
set_option linter.unusedSimpArgs false

/-! ### paths_extractFilename: function 30 -/
def paths_extractFilename.j0 : Nat → ByteArray → ByteArray → Bool → Option (ByteArray)
  | 0, _, _, _ => none
  | k + 1, x1, x2, x32 => if x32 = true then (some (⟨#[]⟩ : ByteArray)) else (if x1.toList = ([] : List UInt8) then (some x2) else ((strings_LastIndex.f x2 (⟨#[46]⟩ : ByteArray)).bind fun t102 => (if 0 ≤ t102 then (if t102 ≤ (x2.size : Int) then (some (x2.extract 0 (t102 : Int).toNat)) else (none)) else (none))))
def paths_extractFilename.f (k : Nat) (a0 : ByteArray) (a1 : ByteArray) (a2 : ByteArray) (a3 : ByteArray) : Option (ByteArray) := (strings_LastIndex.f a0 a3).bind fun t101 => (if t101 = (wrap64 ((a0.size : Int) - 1)) then (paths_extractFilename.j0 k a1 a2 true) else (if a2.toList = ([] : List UInt8) then (paths_extractFilename.j0 k a1 a2 true) else (if a2.toList = ([46] : List UInt8) then (paths_extractFilename.j0 k a1 a2 true) else (if a2.toList = ([46, 46] : List UInt8) then (paths_extractFilename.j0 k a1 a2 true) else (paths_extractFilename.j0 k a1 a2 (a2.toList == a3.toList))))))
theorem paths_extractFilename.mono_l : ∀ k, (∀ y0 y1 y2, LeO (paths_extractFilename.j0 k y0 y1 y2) (paths_extractFilename.j0 (k + 1) y0 y1 y2))
  | 0 => fun _ _ _ r h => by simp [paths_extractFilename.j0] at h
  | k + 1 => by
    have ih0 := paths_extractFilename.mono_l k
    · intro y0 y1 y2
      unfold paths_extractFilename.j0
      repeat' first
      | (with_reducible exact ih0 _ _ _)
      | (with_reducible exact LeO.refl _)
      | (with_reducible exact LeO.none _)
      | (with_reducible refine LeO.ite ?_ ?_)
      | (with_reducible refine LeO.bind ?_ (fun _ => ?_))
      | exact ih0 _ _ _
      | exact LeO.none _
      | refine LeO.ite ?_ ?_
      | refine LeO.bind ?_ (fun _ => ?_)
theorem paths_extractFilename.mono : ∀ a0 a1 a2 a3 k, LeO (paths_extractFilename.f k a0 a1 a2 a3) (paths_extractFilename.f (k + 1) a0 a1 a2 a3) := by
  intro a0 a1 a2 a3 k
  have ih0 := paths_extractFilename.mono_l k
  unfold paths_extractFilename.f
  repeat' first
      | (with_reducible exact ih0 _ _ _)
      | (with_reducible exact LeO.refl _)
      | (with_reducible exact LeO.none _)
      | (with_reducible refine LeO.ite ?_ ?_)
      | (with_reducible refine LeO.bind ?_ (fun _ => ?_))
      | exact ih0 _ _ _
      | exact LeO.none _
      | refine LeO.ite ?_ ?_
      | refine LeO.bind ?_ (fun _ => ?_)
set_option maxHeartbeats 8000000 in
set_option maxRecDepth 100000 in
theorem paths_extractFilename.calls (k : Nat) (a0 : ByteArray) (a1 : ByteArray) (a2 : ByteArray) (a3 : ByteArray) (r : ByteArray) (w : World) (h : paths_extractFilename.f k a0 a1 a2 a3 = some r) :
    Calls Tryd.prog 30 #[.string a0, .string a1, .string a2, .string a3] w fun e w' => e = .returned (.string r) ∧ Drawn0 w w' := by
  have H : ((strings_LastIndex.f a0 a3).bind fun t101 => (if t101 = (wrap64 ((a0.size : Int) - 1)) then (paths_extractFilename.j0 k a1 a2 true) else (if a2.toList = ([] : List UInt8) then (paths_extractFilename.j0 k a1 a2 true) else (if a2.toList = ([46] : List UInt8) then (paths_extractFilename.j0 k a1 a2 true) else (if a2.toList = ([46, 46] : List UInt8) then (paths_extractFilename.j0 k a1 a2 true) else (paths_extractFilename.j0 k a1 a2 (a2.toList == a3.toList))))))) = some r := h
  clear h
  have HC5 := Aside0.mk H
  clear H
  go_enter Tryd.func30, Tryd.ntmps30
  go_upto_region 1 with (fail)
  go_cut [32] (fun v32 wc => ∃ (kq : Nat) (x32_4 : Bool), v32 = .bool x32_4 ∧ Aside0 (paths_extractFilename.j0 kq a1 a2 x32_4 = some r) ∧ Aside0 (kq ≤ k) ∧ Drawn0 w wc)
  case first =>
    have H := HC5.out
    clear HC5
    replace H := Option.bind_eq_some_iff.mp H
    obtain ⟨t101, A60, H⟩ := H
    replace H : (if t101 = (wrap64 ((a0.size : Int) - 1)) then (paths_extractFilename.j0 k a1 a2 true) else (if a2.toList = ([] : List UInt8) then (paths_extractFilename.j0 k a1 a2 true) else (if a2.toList = ([46] : List UInt8) then (paths_extractFilename.j0 k a1 a2 true) else (if a2.toList = ([46, 46] : List UInt8) then (paths_extractFilename.j0 k a1 a2 true) else (paths_extractFilename.j0 k a1 a2 (a2.toList == a3.toList)))))) = some r := H
    have A6 := Aside0.mk A60
    clear A60
    by_cases c7 : t101 = (wrap64 ((a0.size : Int) - 1))
    · rw [if_pos c7] at H
      have c7b0 : (t101 == (wrap64 ((a0.size : Int) - 1))) = true := beq_iff_eq.mpr c7
      have c7b1 : (t101 != (wrap64 ((a0.size : Int) - 1))) = false := bne_eq_false_iff_eq.mpr c7
      clear c7
      (first | rw [c7b0] | (simp only [i64_w, i32_w]; rw [c7b0]) | skip)
      have H' := Aside0.mk H
      clear H
      go_wp2_with (first | ((with_reducible refine gate_callee (f := 32) rfl ?_); refine goesL_ (some 11) rfl rfl Tryd.func32 (by kernel_rfl) rfl #[.string a0, .string a3] rfl (by (try simp only [List.map_toArray, List.map_cons, List.map_nil]); first | done | rfl | (simp only [List.length_drop, List.length_take]; rfl)) ?_; (with_reducible refine (strings_LastIndex.calls a0 a3 t101 _ A6.out).mono ?_); rintro e w' ⟨rfl, ⟨nd, rfl⟩⟩; refine ⟨_, rfl, ?_⟩))
      go_meet
      case rel => exact ⟨_, (true), (by first | rfl | (simp; done) | (simp [*]; done)), H', ⟨by first | omega | exact Nat.le_refl _⟩, by repeat (first | exact Drawn0.refl _ | apply Drawn0.step)⟩
    · rw [if_neg c7] at H
      have c7b0 : (t101 == (wrap64 ((a0.size : Int) - 1))) = false := beq_eq_false_iff_ne.mpr c7
      have c7b1 : (t101 != (wrap64 ((a0.size : Int) - 1))) = true := bne_iff_ne.mpr c7
      (first | rw [c7b0] | (simp only [i64_w, i32_w]; rw [c7b0]) | skip)
      by_cases c8 : a2.toList = ([] : List UInt8)
      · rw [if_pos c8] at H
        have c8b0 : (a2.toList == ([] : List UInt8)) = true := beq_iff_eq.mpr c8
        have c8b1 : (a2.toList != ([] : List UInt8)) = false := bne_eq_false_iff_eq.mpr c8
        clear c8
        have H' := Aside0.mk H
        clear H
        go_wp2_with (first | ((with_reducible refine gate_callee (f := 32) rfl ?_); refine goesL_ (some 11) rfl rfl Tryd.func32 (by kernel_rfl) rfl #[.string a0, .string a3] rfl (by (try simp only [List.map_toArray, List.map_cons, List.map_nil]); first | done | rfl | (simp only [List.length_drop, List.length_take]; rfl)) ?_; (with_reducible refine (strings_LastIndex.calls a0 a3 t101 _ A6.out).mono ?_); rintro e w' ⟨rfl, ⟨nd, rfl⟩⟩; refine ⟨_, rfl, ?_⟩))
        go_meet
        case rel => exact ⟨_, (true), (by first | rfl | (simp; done) | (simp [*]; done)), H', ⟨by first | omega | exact Nat.le_refl _⟩, by repeat (first | exact Drawn0.refl _ | apply Drawn0.step)⟩
      · rw [if_neg c8] at H
        have c8b0 : (a2.toList == ([] : List UInt8)) = false := beq_eq_false_iff_ne.mpr c8
        have c8b1 : (a2.toList != ([] : List UInt8)) = true := bne_iff_ne.mpr c8
        by_cases c9 : a2.toList = ([46] : List UInt8)
        · rw [if_pos c9] at H
          have c9b0 : (a2.toList == ([46] : List UInt8)) = true := beq_iff_eq.mpr c9
          have c9b1 : (a2.toList != ([46] : List UInt8)) = false := bne_eq_false_iff_eq.mpr c9
          clear c9
          have H' := Aside0.mk H
          clear H
          go_wp2_with (first | ((with_reducible refine gate_callee (f := 32) rfl ?_); refine goesL_ (some 11) rfl rfl Tryd.func32 (by kernel_rfl) rfl #[.string a0, .string a3] rfl (by (try simp only [List.map_toArray, List.map_cons, List.map_nil]); first | done | rfl | (simp only [List.length_drop, List.length_take]; rfl)) ?_; (with_reducible refine (strings_LastIndex.calls a0 a3 t101 _ A6.out).mono ?_); rintro e w' ⟨rfl, ⟨nd, rfl⟩⟩; refine ⟨_, rfl, ?_⟩))
          go_meet
          case rel => exact ⟨_, (true), (by first | rfl | (simp; done) | (simp [*]; done)), H', ⟨by first | omega | exact Nat.le_refl _⟩, by repeat (first | exact Drawn0.refl _ | apply Drawn0.step)⟩
        · rw [if_neg c9] at H
          have c9b0 : (a2.toList == ([46] : List UInt8)) = false := beq_eq_false_iff_ne.mpr c9
          have c9b1 : (a2.toList != ([46] : List UInt8)) = true := bne_iff_ne.mpr c9
          by_cases c10 : a2.toList = ([46, 46] : List UInt8)
          · rw [if_pos c10] at H
            have c10b0 : (a2.toList == ([46, 46] : List UInt8)) = true := beq_iff_eq.mpr c10
            have c10b1 : (a2.toList != ([46, 46] : List UInt8)) = false := bne_eq_false_iff_eq.mpr c10
            clear c10
            have H' := Aside0.mk H
            clear H
            go_wp2_with (first | ((with_reducible refine gate_callee (f := 32) rfl ?_); refine goesL_ (some 11) rfl rfl Tryd.func32 (by kernel_rfl) rfl #[.string a0, .string a3] rfl (by (try simp only [List.map_toArray, List.map_cons, List.map_nil]); first | done | rfl | (simp only [List.length_drop, List.length_take]; rfl)) ?_; (with_reducible refine (strings_LastIndex.calls a0 a3 t101 _ A6.out).mono ?_); rintro e w' ⟨rfl, ⟨nd, rfl⟩⟩; refine ⟨_, rfl, ?_⟩))
            go_meet
            case rel => exact ⟨_, (true), (by first | rfl | (simp; done) | (simp [*]; done)), H', ⟨by first | omega | exact Nat.le_refl _⟩, by repeat (first | exact Drawn0.refl _ | apply Drawn0.step)⟩
          · rw [if_neg c10] at H
            have c10b0 : (a2.toList == ([46, 46] : List UInt8)) = false := beq_eq_false_iff_ne.mpr c10
            have c10b1 : (a2.toList != ([46, 46] : List UInt8)) = true := bne_iff_ne.mpr c10
            have H' := Aside0.mk H
            clear H
            go_wp2_with (first | ((with_reducible refine gate_callee (f := 32) rfl ?_); refine goesL_ (some 11) rfl rfl Tryd.func32 (by kernel_rfl) rfl #[.string a0, .string a3] rfl (by (try simp only [List.map_toArray, List.map_cons, List.map_nil]); first | done | rfl | (simp only [List.length_drop, List.length_take]; rfl)) ?_; (with_reducible refine (strings_LastIndex.calls a0 a3 t101 _ A6.out).mono ?_); rintro e w' ⟨rfl, ⟨nd, rfl⟩⟩; refine ⟨_, rfl, ?_⟩))
            go_meet
            case rel => exact ⟨_, ((a2.toList == a3.toList)), (by first | rfl | (simp; done) | (simp [*]; done)), H', ⟨by first | omega | exact Nat.le_refl _⟩, by repeat (first | exact Drawn0.refl _ | apply Drawn0.step)⟩
  case rest =>
    clear HC5
    try clear c1
    try clear p2
    try clear c3
    try clear p6
    try clear c7
    try clear c7b0
    try clear c7b1
    try clear c8
    try clear c8b0
    try clear c8b1
    try clear c9
    try clear c9b0
    try clear c9b1
    try clear c10
    try clear c10b0
    try clear c10b1
    obtain ⟨kq, x32_4, rfl, HA, HJ4, ⟨mc4, rfl⟩⟩ := hcut
    cases kq with
    | zero => exact absurd HA.out (by simp [paths_extractFilename.j0])
    | succ kj4 =>
      have H := HA.out
      clear HA
      simp only [paths_extractFilename.j0] at H
      by_cases c11 : x32_4 = true
      · subst c11
        have H1 : (some (⟨#[]⟩ : ByteArray)) = some r := by rw [if_pos rfl] at H; exact H
        clear H
        have H := H1
        clear H1
        obtain rfl := Option.some.inj H
        go_wp2
        go_ret
        exact ⟨by first | rfl | (simp; done) | (simp [*]; done), by repeat (first | exact Drawn0.refl _ | apply Drawn0.step)⟩
      · replace c11 := Bool.eq_false_iff.mpr c11
        subst c11
        have H1 : (if a1.toList = ([] : List UInt8) then (some a2) else ((strings_LastIndex.f a2 (⟨#[46]⟩ : ByteArray)).bind fun t102 => (if 0 ≤ t102 then (if t102 ≤ (a2.size : Int) then (some (a2.extract 0 (t102 : Int).toNat)) else (none)) else (none)))) = some r := by rw [if_neg (show ¬ (false = true) by decide)] at H; exact H
        clear H
        have H := H1
        clear H1
        by_cases c12 : a1.toList = ([] : List UInt8)
        · rw [if_pos c12] at H
          have c12b0 : (a1.toList == ([] : List UInt8)) = true := beq_iff_eq.mpr c12
          have c12b1 : (a1.toList != ([] : List UInt8)) = false := bne_eq_false_iff_eq.mpr c12
          clear c12
          obtain rfl := Option.some.inj H
          go_wp2
          go_ret
          exact ⟨by first | rfl | (simp; done) | (simp [*]; done), by repeat (first | exact Drawn0.refl _ | apply Drawn0.step)⟩
        · rw [if_neg c12] at H
          have c12b0 : (a1.toList == ([] : List UInt8)) = false := beq_eq_false_iff_ne.mpr c12
          have c12b1 : (a1.toList != ([] : List UInt8)) = true := bne_iff_ne.mpr c12
          replace H := Option.bind_eq_some_iff.mp H
          obtain ⟨t102, A130, H⟩ := H
          replace H : (if 0 ≤ t102 then (if t102 ≤ (a2.size : Int) then (some (a2.extract 0 (t102 : Int).toNat)) else (none)) else (none)) = some r := H
          have A13 := Aside0.mk A130
          clear A130
          by_cases c14 : 0 ≤ t102
          · rw [if_pos c14] at H
            have c14b0 := eq_true c14
            have c14b1 : decide (0 ≤ t102) = true := decide_eq_true c14
            clear c14
            by_cases c15 : t102 ≤ (a2.size : Int)
            · rw [if_pos c15] at H
              have c15b0 := eq_true c15
              have c15b1 : decide (t102 ≤ (a2.size : Int)) = true := decide_eq_true c15
              clear c15
              obtain rfl := Option.some.inj H
              go_wp2_with (first | ((with_reducible refine gate_callee (f := 32) rfl ?_); refine goesL_ (some 37) rfl rfl Tryd.func32 (by kernel_rfl) rfl #[.string a2, .string (⟨#[46]⟩ : ByteArray)] rfl (by (try simp only [List.map_toArray, List.map_cons, List.map_nil]); first | done | rfl | (simp only [List.length_drop, List.length_take]; rfl)) ?_; (with_reducible refine (strings_LastIndex.calls a2 (⟨#[46]⟩ : ByteArray) t102 _ A13.out).mono ?_); rintro e w' ⟨rfl, ⟨nd, rfl⟩⟩; refine ⟨_, rfl, ?_⟩))
              go_ret
              exact ⟨by first | rfl | (simp; done) | (simp [*]; done), by repeat (first | exact Drawn0.refl _ | apply Drawn0.step)⟩
            · rw [if_neg c15] at H
              exact absurd H (by simp)
          · rw [if_neg c14] at H
            exact absurd H (by simp)

/-! ### stringslite_HasPrefix: function 33 -/
def stringslite_HasPrefix.f (a0 : ByteArray) (a1 : ByteArray) : Option (Bool) := if (a0.size : Int) ≥ (a1.size : Int) then (if 0 ≤ (a1.size : Int) then (if (a1.size : Int) ≤ (a0.size : Int) then (some ((a0.extract 0 ((a1.size : Int) : Int).toNat).toList == a1.toList)) else (none)) else (none)) else (some false)
set_option maxHeartbeats 8000000 in
set_option maxRecDepth 100000 in
theorem stringslite_HasPrefix.calls (a0 : ByteArray) (a1 : ByteArray) (r : Bool) (w : World) (h : stringslite_HasPrefix.f a0 a1 = some r) :
    Calls Tryd.prog 33 #[.string a0, .string a1] w fun e w' => e = .returned (.bool r) ∧ Drawn0 w w' := by
  have H : (if (a0.size : Int) ≥ (a1.size : Int) then (if 0 ≤ (a1.size : Int) then (if (a1.size : Int) ≤ (a0.size : Int) then (some ((a0.extract 0 ((a1.size : Int) : Int).toNat).toList == a1.toList)) else (none)) else (none)) else (some false)) = some r := h
  clear h
  by_cases c3 : (a0.size : Int) ≥ (a1.size : Int)
  · rw [if_pos c3] at H
    have c3b0 : decide ((a1.size : Int) ≤ (a0.size : Int)) = true := decide_eq_true c3
    have c3b1 : decide (a1.size ≤ a0.size) = true := decide_eq_true (Int.ofNat_le.mp c3)
    clear c3
    by_cases c4 : 0 ≤ (a1.size : Int)
    · rw [if_pos c4] at H
      have c4b0 := eq_true c4
      have c4b1 : decide (0 ≤ (a1.size : Int)) = true := decide_eq_true c4
      clear c4
      by_cases c5 : (a1.size : Int) ≤ (a0.size : Int)
      · rw [if_pos c5] at H
        have c5b0 := eq_true c5
        have c5b1 : decide ((a1.size : Int) ≤ (a0.size : Int)) = true := decide_eq_true c5
        clear c5
        obtain rfl := Option.some.inj H
        go_enter Tryd.func33, Tryd.ntmps33
        go_wp2
        go_ret
        exact ⟨by first | rfl | (simp; done) | (simp [*]; done), by repeat (first | exact Drawn0.refl _ | apply Drawn0.step)⟩
      · rw [if_neg c5] at H
        exact absurd H (by simp)
    · rw [if_neg c4] at H
      exact absurd H (by simp)
  · rw [if_neg c3] at H
    have c3b0 : decide ((a1.size : Int) ≤ (a0.size : Int)) = false := decide_eq_false c3
    have c3b1 : decide (a1.size ≤ a0.size) = false := decide_eq_false (fun h => c3 (Int.ofNat_le.mpr h))
    clear c3
    obtain rfl := Option.some.inj H
    go_enter Tryd.func33, Tryd.ntmps33
    go_wp2
    go_ret
    exact ⟨by first | rfl | (simp; done) | (simp [*]; done), by repeat (first | exact Drawn0.refl _ | apply Drawn0.step)⟩

/-! ### stringslite_TrimPrefix: function 31 -/
def stringslite_TrimPrefix.f (a0 : ByteArray) (a1 : ByteArray) : Option (ByteArray) := (stringslite_HasPrefix.f a0 a1).bind fun t103 => (if t103 = true then (if 0 ≤ (a1.size : Int) then (if (a1.size : Int) ≤ (a0.size : Int) then (some (a0.extract ((a1.size : Int) : Int).toNat a0.size)) else (none)) else (none)) else (some a0))
set_option maxHeartbeats 8000000 in
set_option maxRecDepth 100000 in
theorem stringslite_TrimPrefix.calls (a0 : ByteArray) (a1 : ByteArray) (r : ByteArray) (w : World) (h : stringslite_TrimPrefix.f a0 a1 = some r) :
    Calls Tryd.prog 31 #[.string a0, .string a1] w fun e w' => e = .returned (.string r) ∧ Drawn0 w w' := by
  have H : ((stringslite_HasPrefix.f a0 a1).bind fun t103 => (if t103 = true then (if 0 ≤ (a1.size : Int) then (if (a1.size : Int) ≤ (a0.size : Int) then (some (a0.extract ((a1.size : Int) : Int).toNat a0.size)) else (none)) else (none)) else (some a0))) = some r := h
  clear h
  replace H := Option.bind_eq_some_iff.mp H
  obtain ⟨t103, A30, H⟩ := H
  replace H : (if t103 = true then (if 0 ≤ (a1.size : Int) then (if (a1.size : Int) ≤ (a0.size : Int) then (some (a0.extract ((a1.size : Int) : Int).toNat a0.size)) else (none)) else (none)) else (some a0)) = some r := H
  have A3 := Aside0.mk A30
  clear A30
  by_cases c4 : t103 = true
  · subst c4
    have H1 : (if 0 ≤ (a1.size : Int) then (if (a1.size : Int) ≤ (a0.size : Int) then (some (a0.extract ((a1.size : Int) : Int).toNat a0.size)) else (none)) else (none)) = some r := by rw [if_pos rfl] at H; exact H
    clear H
    have H := H1
    clear H1
    by_cases c5 : 0 ≤ (a1.size : Int)
    · rw [if_pos c5] at H
      have c5b0 := eq_true c5
      have c5b1 : decide (0 ≤ (a1.size : Int)) = true := decide_eq_true c5
      clear c5
      by_cases c6 : (a1.size : Int) ≤ (a0.size : Int)
      · rw [if_pos c6] at H
        have c6b0 := eq_true c6
        have c6b1 : decide ((a1.size : Int) ≤ (a0.size : Int)) = true := decide_eq_true c6
        clear c6
        obtain rfl := Option.some.inj H
        go_enter Tryd.func31, Tryd.ntmps31
        go_wp2_with (first | ((with_reducible refine gate_callee (f := 33) rfl ?_); refine goesL_ (some 7) rfl rfl Tryd.func33 (by kernel_rfl) rfl #[.string a0, .string a1] rfl (by (try simp only [List.map_toArray, List.map_cons, List.map_nil]); first | done | rfl | (simp only [List.length_drop, List.length_take]; rfl)) ?_; (with_reducible refine (stringslite_HasPrefix.calls a0 a1 true _ A3.out).mono ?_); rintro e w' ⟨rfl, ⟨nd, rfl⟩⟩; refine ⟨_, rfl, ?_⟩))
        go_ret
        exact ⟨by first | rfl | (simp; done) | (simp [*]; done), by repeat (first | exact Drawn0.refl _ | apply Drawn0.step)⟩
      · rw [if_neg c6] at H
        exact absurd H (by simp)
    · rw [if_neg c5] at H
      exact absurd H (by simp)
  · replace c4 := Bool.eq_false_iff.mpr c4
    subst c4
    have H1 : (some a0) = some r := by rw [if_neg (show ¬ (false = true) by decide)] at H; exact H
    clear H
    have H := H1
    clear H1
    obtain rfl := Option.some.inj H
    go_enter Tryd.func31, Tryd.ntmps31
    go_wp2_with (first | ((with_reducible refine gate_callee (f := 33) rfl ?_); refine goesL_ (some 7) rfl rfl Tryd.func33 (by kernel_rfl) rfl #[.string a0, .string a1] rfl (by (try simp only [List.map_toArray, List.map_cons, List.map_nil]); first | done | rfl | (simp only [List.length_drop, List.length_take]; rfl)) ?_; (with_reducible refine (stringslite_HasPrefix.calls a0 a1 false _ A3.out).mono ?_); rintro e w' ⟨rfl, ⟨nd, rfl⟩⟩; refine ⟨_, rfl, ?_⟩))
    go_ret
    exact ⟨by first | rfl | (simp; done) | (simp [*]; done), by repeat (first | exact Drawn0.refl _ | apply Drawn0.step)⟩

/-! ### strings_TrimPrefix: function 29 -/
def strings_TrimPrefix.f (a0 : ByteArray) (a1 : ByteArray) : Option (ByteArray) := (stringslite_TrimPrefix.f a0 a1).bind fun t104 => (some t104)
set_option maxHeartbeats 8000000 in
set_option maxRecDepth 100000 in
theorem strings_TrimPrefix.calls (a0 : ByteArray) (a1 : ByteArray) (r : ByteArray) (w : World) (h : strings_TrimPrefix.f a0 a1 = some r) :
    Calls Tryd.prog 29 #[.string a0, .string a1] w fun e w' => e = .returned (.string r) ∧ Drawn0 w w' := by
  have H : ((stringslite_TrimPrefix.f a0 a1).bind fun t104 => (some t104)) = some r := h
  clear h
  replace H := Option.bind_eq_some_iff.mp H
  obtain ⟨t104, A30, H⟩ := H
  replace H : (some t104) = some r := H
  have A3 := Aside0.mk A30
  clear A30
  obtain rfl := Option.some.inj H
  go_enter Tryd.func29, Tryd.ntmps29
  go_wp2_with (first | ((with_reducible refine gate_callee (f := 31) rfl ?_); refine goesL_ (some 7) rfl rfl Tryd.func31 (by kernel_rfl) rfl #[.string a0, .string a1] rfl (by (try simp only [List.map_toArray, List.map_cons, List.map_nil]); first | done | rfl | (simp only [List.length_drop, List.length_take]; rfl)) ?_; (with_reducible refine (stringslite_TrimPrefix.calls a0 a1 t104 _ A3.out).mono ?_); rintro e w' ⟨rfl, ⟨nd, rfl⟩⟩; refine ⟨_, rfl, ?_⟩))
  go_ret
  exact ⟨by first | rfl | (simp; done) | (simp [*]; done), by repeat (first | exact Drawn0.refl _ | apply Drawn0.step)⟩

end Go.Proofs.YtgcadmofjblaeaaDoor.PLib5
