-- PRINTED BY print.sh 35421559b90ae4d0a3588c463048766b98c2df88dd9212a6774a882060cdf62d: not written by this session
import Derived.Test.YtelijbnnhgmklaaPFnSlashesTwicex0
namespace Go.Proofs.Ytelijbnnhgmklaa.PFnSlashesTwice
open Go.RowKit Go.Proofs.YtelijbnnhgmklaaW.PrintWords Go.Proofs.YtelijbnnhgmklaaW.PrintLast Go.Proofs.YtelijbnnhgmklaaW.PrintMore
attribute [local go_sem] max2_int min2_int max_two min_two max_three min_three max_four min_four   -- for this text's walks alone
set_option linter.unusedVariables false
set_option linter.unusedSimpArgs false

/-! ### stringslite_HasPrefix: function 42 -/
def stringslite_HasPrefix.f (a0 : ByteArray) (a1 : ByteArray) : Option (Bool) := if (a0.size : Int) ≥ (a1.size : Int) then (if 0 ≤ (a1.size : Int) then (if (a1.size : Int) ≤ (a0.size : Int) then (some ((a0.extract 0 ((a1.size : Int) : Int).toNat).toList == a1.toList)) else (none)) else (none)) else (some false)
set_option maxHeartbeats 8000000 in
set_option maxRecDepth 100000 in
theorem stringslite_HasPrefix.calls (a0 : ByteArray) (a1 : ByteArray) (r : Bool) (w : World) (h : stringslite_HasPrefix.f a0 a1 = some r) :
    Calls Try.prog 42 #[.string a0, .string a1] w fun e w' => e = .returned (.bool r) ∧ Drawn0 w w' := by
  have H : (if (a0.size : Int) ≥ (a1.size : Int) then (if 0 ≤ (a1.size : Int) then (if (a1.size : Int) ≤ (a0.size : Int) then (some ((a0.extract 0 ((a1.size : Int) : Int).toNat).toList == a1.toList)) else (none)) else (none)) else (some false)) = some r := h
  clear h
  by_cases c3 : (a0.size : Int) ≥ (a1.size : Int)
  · rw [if_pos c3] at H
    have c3b0 : decide ((a1.size : Int) ≤ (a0.size : Int)) = true := decide_eq_true c3
    have c3b1 : decide (a1.size ≤ a0.size) = true := decide_eq_true (Int.ofNat_le.mp c3)
    clear c3
    by_cases c4 : 0 ≤ (a1.size : Int)
    · rw [if_pos c4] at H
      have c4b0 := eq_true c4
      have c4b1 : decide (0 ≤ (a1.size : Int)) = true := decide_eq_true c4
      clear c4
      by_cases c5 : (a1.size : Int) ≤ (a0.size : Int)
      · rw [if_pos c5] at H
        have c5b0 := eq_true c5
        have c5b1 : decide ((a1.size : Int) ≤ (a0.size : Int)) = true := decide_eq_true c5
        clear c5
        obtain rfl := Option.some.inj H
        go_enter Try.func42, Try.ntmps42
        go_wp2
        go_ret
        exact ⟨by first | rfl | (simp; done) | (simp [*]; done), by repeat (first | exact Drawn0.refl _ | apply Drawn0.step)⟩
      · rw [if_neg c5] at H
        exact absurd H (by simp)
    · rw [if_neg c4] at H
      exact absurd H (by simp)
  · rw [if_neg c3] at H
    have c3b0 : decide ((a1.size : Int) ≤ (a0.size : Int)) = false := decide_eq_false c3
    have c3b1 : decide (a1.size ≤ a0.size) = false := decide_eq_false (fun h => c3 (Int.ofNat_le.mpr h))
    clear c3
    obtain rfl := Option.some.inj H
    go_enter Try.func42, Try.ntmps42
    go_wp2
    go_ret
    exact ⟨by first | rfl | (simp; done) | (simp [*]; done), by repeat (first | exact Drawn0.refl _ | apply Drawn0.step)⟩

/-! ### strings_HasPrefix: function 37 -/
def strings_HasPrefix.f (a0 : ByteArray) (a1 : ByteArray) : Option (Bool) := (stringslite_HasPrefix.f a0 a1).bind fun t101 => (some t101)
set_option maxHeartbeats 8000000 in
set_option maxRecDepth 100000 in
theorem strings_HasPrefix.calls (a0 : ByteArray) (a1 : ByteArray) (r : Bool) (w : World) (h : strings_HasPrefix.f a0 a1 = some r) :
    Calls Try.prog 37 #[.string a0, .string a1] w fun e w' => e = .returned (.bool r) ∧ Drawn0 w w' := by
  have H : ((stringslite_HasPrefix.f a0 a1).bind fun t101 => (some t101)) = some r := h
  clear h
  replace H := Option.bind_eq_some_iff.mp H
  obtain ⟨t101, A30, H⟩ := H
  replace H : (some t101) = some r := H
  have A3 := Aside0.mk A30
  clear A30
  obtain rfl := Option.some.inj H
  go_enter Try.func37, Try.ntmps37
  go_wp2_with (first | ((with_reducible refine gate_callee (f := 42) rfl ?_); refine goesL_ (some 7) rfl rfl Try.func42 (by kernel_rfl) rfl #[.string a0, .string a1] rfl (by (try simp only [List.map_toArray, List.map_cons, List.map_nil]); first | done | rfl | (simp only [List.length_drop, List.length_take]; rfl)) ?_; (with_reducible refine (stringslite_HasPrefix.calls a0 a1 t101 _ A3.out).mono ?_); rintro e w' ⟨rfl, ⟨nd, rfl⟩⟩; refine ⟨_, rfl, ?_⟩))
  go_ret
  exact ⟨by first | rfl | (simp; done) | (simp [*]; done), by repeat (first | exact Drawn0.refl _ | apply Drawn0.step)⟩

/-! ### paths_AddLeadingSlash: function 32 -/
def paths_AddLeadingSlash.f (a0 : ByteArray) : Option (ByteArray) := (strings_HasPrefix.f a0 (⟨#[47]⟩ : ByteArray)).bind fun t102 => (if t102 = true then (some a0) else (if 1 + a0.size ≤ 9223372036854775807 then (some ((⟨#[47]⟩ : ByteArray) ++ a0)) else (none)))
set_option maxHeartbeats 8000000 in
set_option maxRecDepth 100000 in
theorem paths_AddLeadingSlash.calls (a0 : ByteArray) (r : ByteArray) (w : World) (h : paths_AddLeadingSlash.f a0 = some r) :
    Calls Try.prog 32 #[.string a0] w fun e w' => e = .returned (.string r) ∧ Drawn0 w w' := by
  have H : ((strings_HasPrefix.f a0 (⟨#[47]⟩ : ByteArray)).bind fun t102 => (if t102 = true then (some a0) else (if 1 + a0.size ≤ 9223372036854775807 then (some ((⟨#[47]⟩ : ByteArray) ++ a0)) else (none)))) = some r := h
  clear h
  replace H := Option.bind_eq_some_iff.mp H
  obtain ⟨t102, A20, H⟩ := H
  replace H : (if t102 = true then (some a0) else (if 1 + a0.size ≤ 9223372036854775807 then (some ((⟨#[47]⟩ : ByteArray) ++ a0)) else (none))) = some r := H
  have A2 := Aside0.mk A20
  clear A20
  by_cases c3 : t102 = true
  · subst c3
    have H1 : (some a0) = some r := by rw [if_pos rfl] at H; exact H
    clear H
    have H := H1
    clear H1
    obtain rfl := Option.some.inj H
    go_enter Try.func32, Try.ntmps32
    go_wp2_with (first | ((with_reducible refine gate_callee (f := 37) rfl ?_); refine goesL_ (some 4) rfl rfl Try.func37 (by kernel_rfl) rfl #[.string a0, .string (⟨#[47]⟩ : ByteArray)] rfl (by (try simp only [List.map_toArray, List.map_cons, List.map_nil]); first | done | rfl | (simp only [List.length_drop, List.length_take]; rfl)) ?_; (with_reducible refine (strings_HasPrefix.calls a0 (⟨#[47]⟩ : ByteArray) true _ A2.out).mono ?_); rintro e w' ⟨rfl, ⟨nd, rfl⟩⟩; refine ⟨_, rfl, ?_⟩))
    go_ret
    exact ⟨by first | rfl | (simp; done) | (simp [*]; done), by repeat (first | exact Drawn0.refl _ | apply Drawn0.step)⟩
  · replace c3 := Bool.eq_false_iff.mpr c3
    subst c3
    have H1 : (if 1 + a0.size ≤ 9223372036854775807 then (some ((⟨#[47]⟩ : ByteArray) ++ a0)) else (none)) = some r := by rw [if_neg (show ¬ (false = true) by decide)] at H; exact H
    clear H
    have H := H1
    clear H1
    by_cases c4 : 1 + a0.size ≤ 9223372036854775807
    · rw [if_pos c4] at H
      have c4b0 := eq_true c4
      have c4b1 : decide (1 + a0.size ≤ 9223372036854775807) = true := decide_eq_true c4
      try have c4b2 : (9223372036854775807 < 1 + a0.size) = False := eq_false (Nat.not_lt.2 c4)
      obtain rfl := Option.some.inj H
      go_enter Try.func32, Try.ntmps32
      go_wp2_with (first | ((with_reducible refine gate_callee (f := 37) rfl ?_); refine goesL_ (some 4) rfl rfl Try.func37 (by kernel_rfl) rfl #[.string a0, .string (⟨#[47]⟩ : ByteArray)] rfl (by (try simp only [List.map_toArray, List.map_cons, List.map_nil]); first | done | rfl | (simp only [List.length_drop, List.length_take]; rfl)) ?_; (with_reducible refine (strings_HasPrefix.calls a0 (⟨#[47]⟩ : ByteArray) false _ A2.out).mono ?_); rintro e w' ⟨rfl, ⟨nd, rfl⟩⟩; refine ⟨_, rfl, ?_⟩))
      go_ret
      exact ⟨by first | rfl | (simp; done) | (simp [*]; done), by repeat (first | exact Drawn0.refl _ | apply Drawn0.step)⟩
    · rw [if_neg c4] at H
      exact absurd H (by simp)

/-! ### impl_AddLeadingSlash: function 20 -/
def impl_AddLeadingSlash.f (a0 : ByteArray) : Option (ByteArray) := (paths_AddLeadingSlash.f a0).bind fun t103 => (some t103)
set_option maxHeartbeats 8000000 in
set_option maxRecDepth 100000 in
theorem impl_AddLeadingSlash.calls (a0 : ByteArray) (r : ByteArray) (w : World) (h : impl_AddLeadingSlash.f a0 = some r) :
    Calls Try.prog 20 #[.string a0] w fun e w' => e = .returned (.string r) ∧ Drawn0 w w' := by
  have H : ((paths_AddLeadingSlash.f a0).bind fun t103 => (some t103)) = some r := h
  clear h
  replace H := Option.bind_eq_some_iff.mp H
  obtain ⟨t103, A20, H⟩ := H
  replace H : (some t103) = some r := H
  have A2 := Aside0.mk A20
  clear A20
  obtain rfl := Option.some.inj H
  go_enter Try.func20, Try.ntmps20
  go_wp2_with (first | ((with_reducible refine gate_callee (f := 32) rfl ?_); refine goesL_ (some 4) rfl rfl Try.func32 (by kernel_rfl) rfl #[.string a0] rfl (by (try simp only [List.map_toArray, List.map_cons, List.map_nil]); first | done | rfl | (simp only [List.length_drop, List.length_take]; rfl)) ?_; (with_reducible refine (paths_AddLeadingSlash.calls a0 t103 _ A2.out).mono ?_); rintro e w' ⟨rfl, ⟨nd, rfl⟩⟩; refine ⟨_, rfl, ?_⟩))
  go_ret
  exact ⟨by first | rfl | (simp; done) | (simp [*]; done), by repeat (first | exact Drawn0.refl _ | apply Drawn0.step)⟩

/-! ### stringslite_HasSuffix: function 43 -/
def stringslite_HasSuffix.f (a0 : ByteArray) (a1 : ByteArray) : Option (Bool) := if (a0.size : Int) ≥ (a1.size : Int) then (if 0 ≤ (wrap64 ((a0.size : Int) - (a1.size : Int))) then (if (wrap64 ((a0.size : Int) - (a1.size : Int))) ≤ (a0.size : Int) then (some ((a0.extract ((wrap64 ((a0.size : Int) - (a1.size : Int))) : Int).toNat a0.size).toList == a1.toList)) else (none)) else (none)) else (some false)
set_option maxHeartbeats 8000000 in
set_option maxRecDepth 100000 in
theorem stringslite_HasSuffix.calls (a0 : ByteArray) (a1 : ByteArray) (r : Bool) (w : World) (h : stringslite_HasSuffix.f a0 a1 = some r) :
    Calls Try.prog 43 #[.string a0, .string a1] w fun e w' => e = .returned (.bool r) ∧ Drawn0 w w' := by
  have H : (if (a0.size : Int) ≥ (a1.size : Int) then (if 0 ≤ (wrap64 ((a0.size : Int) - (a1.size : Int))) then (if (wrap64 ((a0.size : Int) - (a1.size : Int))) ≤ (a0.size : Int) then (some ((a0.extract ((wrap64 ((a0.size : Int) - (a1.size : Int))) : Int).toNat a0.size).toList == a1.toList)) else (none)) else (none)) else (some false)) = some r := h
  clear h
  by_cases c3 : (a0.size : Int) ≥ (a1.size : Int)
  · rw [if_pos c3] at H
    have c3b0 : decide ((a1.size : Int) ≤ (a0.size : Int)) = true := decide_eq_true c3
    have c3b1 : decide (a1.size ≤ a0.size) = true := decide_eq_true (Int.ofNat_le.mp c3)
    clear c3
    obtain ⟨ji4, hji4⟩ : ∃ j_ : Int, (wrap64 ((a0.size : Int) - (a1.size : Int))) = j_ := ⟨_, rfl⟩
    replace H : (if 0 ≤ (ji4) then (if (ji4) ≤ (a0.size : Int) then (some ((a0.extract ((ji4) : Int).toNat a0.size).toList == a1.toList)) else (none)) else (none)) = some r := by first | (rw [hji4] at H; exact H) | (simp only [hji4] at H ⊢; exact H)
    have hji4w : (IntKind.i64.wrap ((a0.size : Int) - (a1.size : Int))) = ji4 := (i64_w _).trans hji4
    by_cases c5 : 0 ≤ (ji4)
    · rw [if_pos c5] at H
      have c5b0 := eq_true c5
      have c5b1 : decide (0 ≤ (ji4)) = true := decide_eq_true c5
      clear c5
      by_cases c6 : (ji4) ≤ (a0.size : Int)
      · rw [if_pos c6] at H
        have c6b0 := eq_true c6
        have c6b1 : decide ((ji4) ≤ (a0.size : Int)) = true := decide_eq_true c6
        clear c6
        obtain rfl := Option.some.inj H
        go_enter Try.func43, Try.ntmps43
        go_wp2
        go_ret
        exact ⟨by first | rfl | (simp; done) | (simp only [← hji4] <;> (first | rfl | simp)) | (simp [*]; done), by repeat (first | exact Drawn0.refl _ | apply Drawn0.step)⟩
      · rw [if_neg c6] at H
        exact absurd H (by simp)
    · rw [if_neg c5] at H
      exact absurd H (by simp)
  · rw [if_neg c3] at H
    have c3b0 : decide ((a1.size : Int) ≤ (a0.size : Int)) = false := decide_eq_false c3
    have c3b1 : decide (a1.size ≤ a0.size) = false := decide_eq_false (fun h => c3 (Int.ofNat_le.mpr h))
    clear c3
    obtain rfl := Option.some.inj H
    go_enter Try.func43, Try.ntmps43
    go_wp2
    go_ret
    exact ⟨by first | rfl | (simp; done) | (simp [*]; done), by repeat (first | exact Drawn0.refl _ | apply Drawn0.step)⟩

/-! ### strings_HasSuffix: function 38 -/
def strings_HasSuffix.f (a0 : ByteArray) (a1 : ByteArray) : Option (Bool) := (stringslite_HasSuffix.f a0 a1).bind fun t104 => (some t104)
set_option maxHeartbeats 8000000 in
set_option maxRecDepth 100000 in
theorem strings_HasSuffix.calls (a0 : ByteArray) (a1 : ByteArray) (r : Bool) (w : World) (h : strings_HasSuffix.f a0 a1 = some r) :
    Calls Try.prog 38 #[.string a0, .string a1] w fun e w' => e = .returned (.bool r) ∧ Drawn0 w w' := by
  have H : ((stringslite_HasSuffix.f a0 a1).bind fun t104 => (some t104)) = some r := h
  clear h
  replace H := Option.bind_eq_some_iff.mp H
  obtain ⟨t104, A30, H⟩ := H
  replace H : (some t104) = some r := H
  have A3 := Aside0.mk A30
  clear A30
  obtain rfl := Option.some.inj H
  go_enter Try.func38, Try.ntmps38
  go_wp2_with (first | ((with_reducible refine gate_callee (f := 43) rfl ?_); refine goesL_ (some 7) rfl rfl Try.func43 (by kernel_rfl) rfl #[.string a0, .string a1] rfl (by (try simp only [List.map_toArray, List.map_cons, List.map_nil]); first | done | rfl | (simp only [List.length_drop, List.length_take]; rfl)) ?_; (with_reducible refine (stringslite_HasSuffix.calls a0 a1 t104 _ A3.out).mono ?_); rintro e w' ⟨rfl, ⟨nd, rfl⟩⟩; refine ⟨_, rfl, ?_⟩))
  go_ret
  exact ⟨by first | rfl | (simp; done) | (simp [*]; done), by repeat (first | exact Drawn0.refl _ | apply Drawn0.step)⟩

/-! ### paths_AddTrailingSlash: function 33 -/
def paths_AddTrailingSlash.f (a0 : ByteArray) : Option (ByteArray) := (strings_HasSuffix.f a0 (⟨#[47]⟩ : ByteArray)).bind fun t105 => (if t105 = true then (some a0) else (if a0.size + 1 ≤ 9223372036854775807 then (some (a0 ++ (⟨#[47]⟩ : ByteArray))) else (none)))
set_option maxHeartbeats 8000000 in
set_option maxRecDepth 100000 in
theorem paths_AddTrailingSlash.calls (a0 : ByteArray) (r : ByteArray) (w : World) (h : paths_AddTrailingSlash.f a0 = some r) :
    Calls Try.prog 33 #[.string a0] w fun e w' => e = .returned (.string r) ∧ Drawn0 w w' := by
  have H : ((strings_HasSuffix.f a0 (⟨#[47]⟩ : ByteArray)).bind fun t105 => (if t105 = true then (some a0) else (if a0.size + 1 ≤ 9223372036854775807 then (some (a0 ++ (⟨#[47]⟩ : ByteArray))) else (none)))) = some r := h
  clear h
  replace H := Option.bind_eq_some_iff.mp H
  obtain ⟨t105, A20, H⟩ := H
  replace H : (if t105 = true then (some a0) else (if a0.size + 1 ≤ 9223372036854775807 then (some (a0 ++ (⟨#[47]⟩ : ByteArray))) else (none))) = some r := H
  have A2 := Aside0.mk A20
  clear A20
  by_cases c3 : t105 = true
  · subst c3
    have H1 : (some a0) = some r := by rw [if_pos rfl] at H; exact H
    clear H
    have H := H1
    clear H1
    obtain rfl := Option.some.inj H
    go_enter Try.func33, Try.ntmps33
    go_wp2_with (first | ((with_reducible refine gate_callee (f := 38) rfl ?_); refine goesL_ (some 4) rfl rfl Try.func38 (by kernel_rfl) rfl #[.string a0, .string (⟨#[47]⟩ : ByteArray)] rfl (by (try simp only [List.map_toArray, List.map_cons, List.map_nil]); first | done | rfl | (simp only [List.length_drop, List.length_take]; rfl)) ?_; (with_reducible refine (strings_HasSuffix.calls a0 (⟨#[47]⟩ : ByteArray) true _ A2.out).mono ?_); rintro e w' ⟨rfl, ⟨nd, rfl⟩⟩; refine ⟨_, rfl, ?_⟩))
    go_ret
    exact ⟨by first | rfl | (simp; done) | (simp [*]; done), by repeat (first | exact Drawn0.refl _ | apply Drawn0.step)⟩
  · replace c3 := Bool.eq_false_iff.mpr c3
    subst c3
    have H1 : (if a0.size + 1 ≤ 9223372036854775807 then (some (a0 ++ (⟨#[47]⟩ : ByteArray))) else (none)) = some r := by rw [if_neg (show ¬ (false = true) by decide)] at H; exact H
    clear H
    have H := H1
    clear H1
    by_cases c4 : a0.size + 1 ≤ 9223372036854775807
    · rw [if_pos c4] at H
      have c4b0 := eq_true c4
      have c4b1 : decide (a0.size + 1 ≤ 9223372036854775807) = true := decide_eq_true c4
      try have c4b2 : (9223372036854775807 < a0.size + 1) = False := eq_false (Nat.not_lt.2 c4)
      obtain rfl := Option.some.inj H
      go_enter Try.func33, Try.ntmps33
      go_wp2_with (first | ((with_reducible refine gate_callee (f := 38) rfl ?_); refine goesL_ (some 4) rfl rfl Try.func38 (by kernel_rfl) rfl #[.string a0, .string (⟨#[47]⟩ : ByteArray)] rfl (by (try simp only [List.map_toArray, List.map_cons, List.map_nil]); first | done | rfl | (simp only [List.length_drop, List.length_take]; rfl)) ?_; (with_reducible refine (strings_HasSuffix.calls a0 (⟨#[47]⟩ : ByteArray) false _ A2.out).mono ?_); rintro e w' ⟨rfl, ⟨nd, rfl⟩⟩; refine ⟨_, rfl, ?_⟩))
      go_ret
      exact ⟨by first | rfl | (simp; done) | (simp [*]; done), by repeat (first | exact Drawn0.refl _ | apply Drawn0.step)⟩
    · rw [if_neg c4] at H
      exact absurd H (by simp)

/-! ### impl_AddTrailingSlash: function 21 -/
def impl_AddTrailingSlash.f (a0 : ByteArray) : Option (ByteArray) := (paths_AddTrailingSlash.f a0).bind fun t106 => (some t106)
set_option maxHeartbeats 8000000 in
set_option maxRecDepth 100000 in
theorem impl_AddTrailingSlash.calls (a0 : ByteArray) (r : ByteArray) (w : World) (h : impl_AddTrailingSlash.f a0 = some r) :
    Calls Try.prog 21 #[.string a0] w fun e w' => e = .returned (.string r) ∧ Drawn0 w w' := by
  have H : ((paths_AddTrailingSlash.f a0).bind fun t106 => (some t106)) = some r := h
  clear h
  replace H := Option.bind_eq_some_iff.mp H
  obtain ⟨t106, A20, H⟩ := H
  replace H : (some t106) = some r := H
  have A2 := Aside0.mk A20
  clear A20
  obtain rfl := Option.some.inj H
  go_enter Try.func21, Try.ntmps21
  go_wp2_with (first | ((with_reducible refine gate_callee (f := 33) rfl ?_); refine goesL_ (some 4) rfl rfl Try.func33 (by kernel_rfl) rfl #[.string a0] rfl (by (try simp only [List.map_toArray, List.map_cons, List.map_nil]); first | done | rfl | (simp only [List.length_drop, List.length_take]; rfl)) ?_; (with_reducible refine (paths_AddTrailingSlash.calls a0 t106 _ A2.out).mono ?_); rintro e w' ⟨rfl, ⟨nd, rfl⟩⟩; refine ⟨_, rfl, ?_⟩))
  go_ret
  exact ⟨by first | rfl | (simp; done) | (simp [*]; done), by repeat (first | exact Drawn0.refl _ | apply Drawn0.step)⟩

/-! ### paths_AddLeadingAndTrailingSlash: function 34 -/
def paths_AddLeadingAndTrailingSlash.f (a0 : ByteArray) : Option (ByteArray) := (paths_AddLeadingSlash.f a0).bind fun t107 => ((paths_AddTrailingSlash.f t107).bind fun t108 => (some t108))
set_option maxHeartbeats 8000000 in
set_option maxRecDepth 100000 in
theorem paths_AddLeadingAndTrailingSlash.calls (a0 : ByteArray) (r : ByteArray) (w : World) (h : paths_AddLeadingAndTrailingSlash.f a0 = some r) :
    Calls Try.prog 34 #[.string a0] w fun e w' => e = .returned (.string r) ∧ Drawn0 w w' := by
  have H : ((paths_AddLeadingSlash.f a0).bind fun t107 => ((paths_AddTrailingSlash.f t107).bind fun t108 => (some t108))) = some r := h
  clear h
  replace H := Option.bind_eq_some_iff.mp H
  obtain ⟨t107, A20, H⟩ := H
  replace H : ((paths_AddTrailingSlash.f t107).bind fun t108 => (some t108)) = some r := H
  have A2 := Aside0.mk A20
  clear A20
  replace H := Option.bind_eq_some_iff.mp H
  obtain ⟨t108, A30, H⟩ := H
  replace H : (some t108) = some r := H
  have A3 := Aside0.mk A30
  clear A30
  obtain rfl := Option.some.inj H
  go_enter Try.func34, Try.ntmps34
  go_wp2_with (first | ((with_reducible refine gate_callee (f := 32) rfl ?_); refine goesL_ (some 4) rfl rfl Try.func32 (by kernel_rfl) rfl #[.string a0] rfl (by (try simp only [List.map_toArray, List.map_cons, List.map_nil]); first | done | rfl | (simp only [List.length_drop, List.length_take]; rfl)) ?_; (with_reducible refine (paths_AddLeadingSlash.calls a0 t107 _ A2.out).mono ?_); rintro e w' ⟨rfl, ⟨nd, rfl⟩⟩; refine ⟨_, rfl, ?_⟩) | ((with_reducible refine gate_callee (f := 33) rfl ?_); refine goesL_ (some 5) rfl rfl Try.func33 (by kernel_rfl) rfl #[.string t107] rfl (by (try simp only [List.map_toArray, List.map_cons, List.map_nil]); first | done | rfl | (simp only [List.length_drop, List.length_take]; rfl)) ?_; (with_reducible refine (paths_AddTrailingSlash.calls t107 t108 _ A3.out).mono ?_); rintro e w' ⟨rfl, ⟨nd, rfl⟩⟩; refine ⟨_, rfl, ?_⟩))
  go_ret
  exact ⟨by first | rfl | (simp; done) | (simp [*]; done), by repeat (first | exact Drawn0.refl _ | apply Drawn0.step)⟩

/-! ### impl_AddBothSlashes: function 22 -/
def impl_AddBothSlashes.f (a0 : ByteArray) : Option (ByteArray) := (paths_AddLeadingAndTrailingSlash.f a0).bind fun t109 => (some t109)
set_option maxHeartbeats 8000000 in
set_option maxRecDepth 100000 in
theorem impl_AddBothSlashes.calls (a0 : ByteArray) (r : ByteArray) (w : World) (h : impl_AddBothSlashes.f a0 = some r) :
    Calls Try.prog 22 #[.string a0] w fun e w' => e = .returned (.string r) ∧ Drawn0 w w' := by
  have H : ((paths_AddLeadingAndTrailingSlash.f a0).bind fun t109 => (some t109)) = some r := h
  clear h
  replace H := Option.bind_eq_some_iff.mp H
  obtain ⟨t109, A20, H⟩ := H
  replace H : (some t109) = some r := H
  have A2 := Aside0.mk A20
  clear A20
  obtain rfl := Option.some.inj H
  go_enter Try.func22, Try.ntmps22
  go_wp2_with (first | ((with_reducible refine gate_callee (f := 34) rfl ?_); refine goesL_ (some 4) rfl rfl Try.func34 (by kernel_rfl) rfl #[.string a0] rfl (by (try simp only [List.map_toArray, List.map_cons, List.map_nil]); first | done | rfl | (simp only [List.length_drop, List.length_take]; rfl)) ?_; (with_reducible refine (paths_AddLeadingAndTrailingSlash.calls a0 t109 _ A2.out).mono ?_); rintro e w' ⟨rfl, ⟨nd, rfl⟩⟩; refine ⟨_, rfl, ?_⟩))
  go_ret
  exact ⟨by first | rfl | (simp; done) | (simp [*]; done), by repeat (first | exact Drawn0.refl _ | apply Drawn0.step)⟩

/-! ### laws_FnSlashesTwice: function 7 -/
def laws_FnSlashesTwice.f (a0 : ByteArray) : Option (Bool) := if (a0.size : Int) > 2147483647 then (some true) else (if (a0.size : Int) > 65536 then (some true) else ((impl_AddLeadingSlash.f a0).bind fun t110 => ((impl_AddTrailingSlash.f a0).bind fun t111 => ((impl_AddBothSlashes.f a0).bind fun t112 => ((impl_AddLeadingSlash.f t110).bind fun t113 => (if t113.toList = t110.toList then ((impl_AddTrailingSlash.f t111).bind fun t114 => (if t114.toList = t111.toList then ((impl_AddBothSlashes.f t112).bind fun t115 => (if t115.toList = t112.toList then (if t110.toList = ([] : List UInt8) then (some false) else (if 0 < (t110.size : Int) then (if (bt t110 0) = 47 then (if t111.toList = ([] : List UInt8) then (some false) else (if 0 ≤ (wrap64 ((t111.size : Int) - 1)) then (if (wrap64 ((t111.size : Int) - 1)) < (t111.size : Int) then (if (bt t111 (wrap64 ((t111.size : Int) - 1))) = 47 then ((impl_AddTrailingSlash.f t110).bind fun t116 => (if t112.toList = t116.toList then (if a0.toList = ([] : List UInt8) then (some true) else (if 0 < (a0.size : Int) then (if (bt a0 0) = 47 then (if 0 ≤ (wrap64 ((a0.size : Int) - 1)) then (if (wrap64 ((a0.size : Int) - 1)) < (a0.size : Int) then (if (bt a0 (wrap64 ((a0.size : Int) - 1))) = 47 then (some true) else (if a0.size + 1 ≤ 9223372036854775807 then (some (t111.toList == (a0 ++ (⟨#[47]⟩ : ByteArray)).toList)) else (none))) else (none)) else (none)) else (if 1 + a0.size ≤ 9223372036854775807 then (if t110.toList = ((⟨#[47]⟩ : ByteArray) ++ a0).toList then (if 0 ≤ (wrap64 ((a0.size : Int) - 1)) then (if (wrap64 ((a0.size : Int) - 1)) < (a0.size : Int) then (if (bt a0 (wrap64 ((a0.size : Int) - 1))) = 47 then (some true) else (if a0.size + 1 ≤ 9223372036854775807 then (some (t111.toList == (a0 ++ (⟨#[47]⟩ : ByteArray)).toList)) else (none))) else (none)) else (none)) else (some false)) else (none))) else (none))) else (some false))) else (some false)) else (none)) else (none))) else (some false)) else (none))) else (some false))) else (some false))) else (some false)))))))
set_option maxHeartbeats 8000000 in
set_option maxRecDepth 100000 in
theorem laws_FnSlashesTwice.calls (a0 : ByteArray) (r : Bool) (w : World) (h : laws_FnSlashesTwice.f a0 = some r) :
    Calls Try.prog 7 #[.string a0] w fun e w' => e = .returned (.bool r) ∧ Drawn0 w w' := by
  have H : (if (a0.size : Int) > 2147483647 then (some true) else (if (a0.size : Int) > 65536 then (some true) else ((impl_AddLeadingSlash.f a0).bind fun t110 => ((impl_AddTrailingSlash.f a0).bind fun t111 => ((impl_AddBothSlashes.f a0).bind fun t112 => ((impl_AddLeadingSlash.f t110).bind fun t113 => (if t113.toList = t110.toList then ((impl_AddTrailingSlash.f t111).bind fun t114 => (if t114.toList = t111.toList then ((impl_AddBothSlashes.f t112).bind fun t115 => (if t115.toList = t112.toList then (if t110.toList = ([] : List UInt8) then (some false) else (if 0 < (t110.size : Int) then (if (bt t110 0) = 47 then (if t111.toList = ([] : List UInt8) then (some false) else (if 0 ≤ (wrap64 ((t111.size : Int) - 1)) then (if (wrap64 ((t111.size : Int) - 1)) < (t111.size : Int) then (if (bt t111 (wrap64 ((t111.size : Int) - 1))) = 47 then ((impl_AddTrailingSlash.f t110).bind fun t116 => (if t112.toList = t116.toList then (if a0.toList = ([] : List UInt8) then (some true) else (if 0 < (a0.size : Int) then (if (bt a0 0) = 47 then (if 0 ≤ (wrap64 ((a0.size : Int) - 1)) then (if (wrap64 ((a0.size : Int) - 1)) < (a0.size : Int) then (if (bt a0 (wrap64 ((a0.size : Int) - 1))) = 47 then (some true) else (if a0.size + 1 ≤ 9223372036854775807 then (some (t111.toList == (a0 ++ (⟨#[47]⟩ : ByteArray)).toList)) else (none))) else (none)) else (none)) else (if 1 + a0.size ≤ 9223372036854775807 then (if t110.toList = ((⟨#[47]⟩ : ByteArray) ++ a0).toList then (if 0 ≤ (wrap64 ((a0.size : Int) - 1)) then (if (wrap64 ((a0.size : Int) - 1)) < (a0.size : Int) then (if (bt a0 (wrap64 ((a0.size : Int) - 1))) = 47 then (some true) else (if a0.size + 1 ≤ 9223372036854775807 then (some (t111.toList == (a0 ++ (⟨#[47]⟩ : ByteArray)).toList)) else (none))) else (none)) else (none)) else (some false)) else (none))) else (none))) else (some false))) else (some false)) else (none)) else (none))) else (some false)) else (none))) else (some false))) else (some false))) else (some false)))))))) = some r := h
  clear h
  by_cases c2 : (a0.size : Int) > 2147483647
  · rw [if_pos c2] at H
    have c2b0 : decide (2147483647 < (a0.size : Int)) = true := decide_eq_true c2
    have c2b1 : decide (2147483647 < a0.size) = true := decide_eq_true (by omega)
    clear c2
    obtain rfl := Option.some.inj H
    go_enter Try.func7, Try.ntmps7
    go_wp2
    go_ret
    exact ⟨by first | rfl | (simp; done) | (simp [*]; done), by repeat (first | exact Drawn0.refl _ | apply Drawn0.step)⟩
  · rw [if_neg c2] at H
    have c2b0 : decide (2147483647 < (a0.size : Int)) = false := decide_eq_false c2
    have c2b1 : decide (2147483647 < a0.size) = false := decide_eq_false (by omega)
    clear c2
    by_cases c3 : (a0.size : Int) > 65536
    · rw [if_pos c3] at H
      have c3b0 : decide (65536 < (a0.size : Int)) = true := decide_eq_true c3
      have c3b1 : decide (65536 < a0.size) = true := decide_eq_true (by omega)
      clear c3
      obtain rfl := Option.some.inj H
      go_enter Try.func7, Try.ntmps7
      go_wp2
      go_ret
      exact ⟨by first | rfl | (simp; done) | (simp [*]; done), by repeat (first | exact Drawn0.refl _ | apply Drawn0.step)⟩
    · rw [if_neg c3] at H
      have c3b0 : decide (65536 < (a0.size : Int)) = false := decide_eq_false c3
      have c3b1 : decide (65536 < a0.size) = false := decide_eq_false (by omega)
      clear c3
      replace H := Option.bind_eq_some_iff.mp H
      obtain ⟨t110, A40, H⟩ := H
      replace H : ((impl_AddTrailingSlash.f a0).bind fun t111 => ((impl_AddBothSlashes.f a0).bind fun t112 => ((impl_AddLeadingSlash.f t110).bind fun t113 => (if t113.toList = t110.toList then ((impl_AddTrailingSlash.f t111).bind fun t114 => (if t114.toList = t111.toList then ((impl_AddBothSlashes.f t112).bind fun t115 => (if t115.toList = t112.toList then (if t110.toList = ([] : List UInt8) then (some false) else (if 0 < (t110.size : Int) then (if (bt t110 0) = 47 then (if t111.toList = ([] : List UInt8) then (some false) else (if 0 ≤ (wrap64 ((t111.size : Int) - 1)) then (if (wrap64 ((t111.size : Int) - 1)) < (t111.size : Int) then (if (bt t111 (wrap64 ((t111.size : Int) - 1))) = 47 then ((impl_AddTrailingSlash.f t110).bind fun t116 => (if t112.toList = t116.toList then (if a0.toList = ([] : List UInt8) then (some true) else (if 0 < (a0.size : Int) then (if (bt a0 0) = 47 then (if 0 ≤ (wrap64 ((a0.size : Int) - 1)) then (if (wrap64 ((a0.size : Int) - 1)) < (a0.size : Int) then (if (bt a0 (wrap64 ((a0.size : Int) - 1))) = 47 then (some true) else (if a0.size + 1 ≤ 9223372036854775807 then (some (t111.toList == (a0 ++ (⟨#[47]⟩ : ByteArray)).toList)) else (none))) else (none)) else (none)) else (if 1 + a0.size ≤ 9223372036854775807 then (if t110.toList = ((⟨#[47]⟩ : ByteArray) ++ a0).toList then (if 0 ≤ (wrap64 ((a0.size : Int) - 1)) then (if (wrap64 ((a0.size : Int) - 1)) < (a0.size : Int) then (if (bt a0 (wrap64 ((a0.size : Int) - 1))) = 47 then (some true) else (if a0.size + 1 ≤ 9223372036854775807 then (some (t111.toList == (a0 ++ (⟨#[47]⟩ : ByteArray)).toList)) else (none))) else (none)) else (none)) else (some false)) else (none))) else (none))) else (some false))) else (some false)) else (none)) else (none))) else (some false)) else (none))) else (some false))) else (some false))) else (some false))))) = some r := H
      have A4 := Aside0.mk A40
      clear A40
      replace H := Option.bind_eq_some_iff.mp H
      obtain ⟨t111, A50, H⟩ := H
      replace H : ((impl_AddBothSlashes.f a0).bind fun t112 => ((impl_AddLeadingSlash.f t110).bind fun t113 => (if t113.toList = t110.toList then ((impl_AddTrailingSlash.f t111).bind fun t114 => (if t114.toList = t111.toList then ((impl_AddBothSlashes.f t112).bind fun t115 => (if t115.toList = t112.toList then (if t110.toList = ([] : List UInt8) then (some false) else (if 0 < (t110.size : Int) then (if (bt t110 0) = 47 then (if t111.toList = ([] : List UInt8) then (some false) else (if 0 ≤ (wrap64 ((t111.size : Int) - 1)) then (if (wrap64 ((t111.size : Int) - 1)) < (t111.size : Int) then (if (bt t111 (wrap64 ((t111.size : Int) - 1))) = 47 then ((impl_AddTrailingSlash.f t110).bind fun t116 => (if t112.toList = t116.toList then (if a0.toList = ([] : List UInt8) then (some true) else (if 0 < (a0.size : Int) then (if (bt a0 0) = 47 then (if 0 ≤ (wrap64 ((a0.size : Int) - 1)) then (if (wrap64 ((a0.size : Int) - 1)) < (a0.size : Int) then (if (bt a0 (wrap64 ((a0.size : Int) - 1))) = 47 then (some true) else (if a0.size + 1 ≤ 9223372036854775807 then (some (t111.toList == (a0 ++ (⟨#[47]⟩ : ByteArray)).toList)) else (none))) else (none)) else (none)) else (if 1 + a0.size ≤ 9223372036854775807 then (if t110.toList = ((⟨#[47]⟩ : ByteArray) ++ a0).toList then (if 0 ≤ (wrap64 ((a0.size : Int) - 1)) then (if (wrap64 ((a0.size : Int) - 1)) < (a0.size : Int) then (if (bt a0 (wrap64 ((a0.size : Int) - 1))) = 47 then (some true) else (if a0.size + 1 ≤ 9223372036854775807 then (some (t111.toList == (a0 ++ (⟨#[47]⟩ : ByteArray)).toList)) else (none))) else (none)) else (none)) else (some false)) else (none))) else (none))) else (some false))) else (some false)) else (none)) else (none))) else (some false)) else (none))) else (some false))) else (some false))) else (some false)))) = some r := H
      have A5 := Aside0.mk A50
      clear A50
      replace H := Option.bind_eq_some_iff.mp H
      obtain ⟨t112, A60, H⟩ := H
      replace H : ((impl_AddLeadingSlash.f t110).bind fun t113 => (if t113.toList = t110.toList then ((impl_AddTrailingSlash.f t111).bind fun t114 => (if t114.toList = t111.toList then ((impl_AddBothSlashes.f t112).bind fun t115 => (if t115.toList = t112.toList then (if t110.toList = ([] : List UInt8) then (some false) else (if 0 < (t110.size : Int) then (if (bt t110 0) = 47 then (if t111.toList = ([] : List UInt8) then (some false) else (if 0 ≤ (wrap64 ((t111.size : Int) - 1)) then (if (wrap64 ((t111.size : Int) - 1)) < (t111.size : Int) then (if (bt t111 (wrap64 ((t111.size : Int) - 1))) = 47 then ((impl_AddTrailingSlash.f t110).bind fun t116 => (if t112.toList = t116.toList then (if a0.toList = ([] : List UInt8) then (some true) else (if 0 < (a0.size : Int) then (if (bt a0 0) = 47 then (if 0 ≤ (wrap64 ((a0.size : Int) - 1)) then (if (wrap64 ((a0.size : Int) - 1)) < (a0.size : Int) then (if (bt a0 (wrap64 ((a0.size : Int) - 1))) = 47 then (some true) else (if a0.size + 1 ≤ 9223372036854775807 then (some (t111.toList == (a0 ++ (⟨#[47]⟩ : ByteArray)).toList)) else (none))) else (none)) else (none)) else (if 1 + a0.size ≤ 9223372036854775807 then (if t110.toList = ((⟨#[47]⟩ : ByteArray) ++ a0).toList then (if 0 ≤ (wrap64 ((a0.size : Int) - 1)) then (if (wrap64 ((a0.size : Int) - 1)) < (a0.size : Int) then (if (bt a0 (wrap64 ((a0.size : Int) - 1))) = 47 then (some true) else (if a0.size + 1 ≤ 9223372036854775807 then (some (t111.toList == (a0 ++ (⟨#[47]⟩ : ByteArray)).toList)) else (none))) else (none)) else (none)) else (some false)) else (none))) else (none))) else (some false))) else (some false)) else (none)) else (none))) else (some false)) else (none))) else (some false))) else (some false))) else (some false))) = some r := H
      have A6 := Aside0.mk A60
      clear A60
      replace H := Option.bind_eq_some_iff.mp H
      obtain ⟨t113, A70, H⟩ := H
      replace H : (if t113.toList = t110.toList then ((impl_AddTrailingSlash.f t111).bind fun t114 => (if t114.toList = t111.toList then ((impl_AddBothSlashes.f t112).bind fun t115 => (if t115.toList = t112.toList then (if t110.toList = ([] : List UInt8) then (some false) else (if 0 < (t110.size : Int) then (if (bt t110 0) = 47 then (if t111.toList = ([] : List UInt8) then (some false) else (if 0 ≤ (wrap64 ((t111.size : Int) - 1)) then (if (wrap64 ((t111.size : Int) - 1)) < (t111.size : Int) then (if (bt t111 (wrap64 ((t111.size : Int) - 1))) = 47 then ((impl_AddTrailingSlash.f t110).bind fun t116 => (if t112.toList = t116.toList then (if a0.toList = ([] : List UInt8) then (some true) else (if 0 < (a0.size : Int) then (if (bt a0 0) = 47 then (if 0 ≤ (wrap64 ((a0.size : Int) - 1)) then (if (wrap64 ((a0.size : Int) - 1)) < (a0.size : Int) then (if (bt a0 (wrap64 ((a0.size : Int) - 1))) = 47 then (some true) else (if a0.size + 1 ≤ 9223372036854775807 then (some (t111.toList == (a0 ++ (⟨#[47]⟩ : ByteArray)).toList)) else (none))) else (none)) else (none)) else (if 1 + a0.size ≤ 9223372036854775807 then (if t110.toList = ((⟨#[47]⟩ : ByteArray) ++ a0).toList then (if 0 ≤ (wrap64 ((a0.size : Int) - 1)) then (if (wrap64 ((a0.size : Int) - 1)) < (a0.size : Int) then (if (bt a0 (wrap64 ((a0.size : Int) - 1))) = 47 then (some true) else (if a0.size + 1 ≤ 9223372036854775807 then (some (t111.toList == (a0 ++ (⟨#[47]⟩ : ByteArray)).toList)) else (none))) else (none)) else (none)) else (some false)) else (none))) else (none))) else (some false))) else (some false)) else (none)) else (none))) else (some false)) else (none))) else (some false))) else (some false))) else (some false)) = some r := H
      have A7 := Aside0.mk A70
      clear A70
      by_cases c8 : t113.toList = t110.toList
      · rw [if_pos c8] at H
        have c8b0 : (t113.toList == t110.toList) = true := beq_iff_eq.mpr c8
        have c8b1 : (t113.toList != t110.toList) = false := bne_eq_false_iff_eq.mpr c8
        clear c8
        replace H := Option.bind_eq_some_iff.mp H
        obtain ⟨t114, A90, H⟩ := H
        replace H : (if t114.toList = t111.toList then ((impl_AddBothSlashes.f t112).bind fun t115 => (if t115.toList = t112.toList then (if t110.toList = ([] : List UInt8) then (some false) else (if 0 < (t110.size : Int) then (if (bt t110 0) = 47 then (if t111.toList = ([] : List UInt8) then (some false) else (if 0 ≤ (wrap64 ((t111.size : Int) - 1)) then (if (wrap64 ((t111.size : Int) - 1)) < (t111.size : Int) then (if (bt t111 (wrap64 ((t111.size : Int) - 1))) = 47 then ((impl_AddTrailingSlash.f t110).bind fun t116 => (if t112.toList = t116.toList then (if a0.toList = ([] : List UInt8) then (some true) else (if 0 < (a0.size : Int) then (if (bt a0 0) = 47 then (if 0 ≤ (wrap64 ((a0.size : Int) - 1)) then (if (wrap64 ((a0.size : Int) - 1)) < (a0.size : Int) then (if (bt a0 (wrap64 ((a0.size : Int) - 1))) = 47 then (some true) else (if a0.size + 1 ≤ 9223372036854775807 then (some (t111.toList == (a0 ++ (⟨#[47]⟩ : ByteArray)).toList)) else (none))) else (none)) else (none)) else (if 1 + a0.size ≤ 9223372036854775807 then (if t110.toList = ((⟨#[47]⟩ : ByteArray) ++ a0).toList then (if 0 ≤ (wrap64 ((a0.size : Int) - 1)) then (if (wrap64 ((a0.size : Int) - 1)) < (a0.size : Int) then (if (bt a0 (wrap64 ((a0.size : Int) - 1))) = 47 then (some true) else (if a0.size + 1 ≤ 9223372036854775807 then (some (t111.toList == (a0 ++ (⟨#[47]⟩ : ByteArray)).toList)) else (none))) else (none)) else (none)) else (some false)) else (none))) else (none))) else (some false))) else (some false)) else (none)) else (none))) else (some false)) else (none))) else (some false))) else (some false)) = some r := H
        have A9 := Aside0.mk A90
        clear A90
        by_cases c10 : t114.toList = t111.toList
        · rw [if_pos c10] at H
          have c10b0 : (t114.toList == t111.toList) = true := beq_iff_eq.mpr c10
          have c10b1 : (t114.toList != t111.toList) = false := bne_eq_false_iff_eq.mpr c10
          clear c10
          replace H := Option.bind_eq_some_iff.mp H
          obtain ⟨t115, A110, H⟩ := H
          replace H : (if t115.toList = t112.toList then (if t110.toList = ([] : List UInt8) then (some false) else (if 0 < (t110.size : Int) then (if (bt t110 0) = 47 then (if t111.toList = ([] : List UInt8) then (some false) else (if 0 ≤ (wrap64 ((t111.size : Int) - 1)) then (if (wrap64 ((t111.size : Int) - 1)) < (t111.size : Int) then (if (bt t111 (wrap64 ((t111.size : Int) - 1))) = 47 then ((impl_AddTrailingSlash.f t110).bind fun t116 => (if t112.toList = t116.toList then (if a0.toList = ([] : List UInt8) then (some true) else (if 0 < (a0.size : Int) then (if (bt a0 0) = 47 then (if 0 ≤ (wrap64 ((a0.size : Int) - 1)) then (if (wrap64 ((a0.size : Int) - 1)) < (a0.size : Int) then (if (bt a0 (wrap64 ((a0.size : Int) - 1))) = 47 then (some true) else (if a0.size + 1 ≤ 9223372036854775807 then (some (t111.toList == (a0 ++ (⟨#[47]⟩ : ByteArray)).toList)) else (none))) else (none)) else (none)) else (if 1 + a0.size ≤ 9223372036854775807 then (if t110.toList = ((⟨#[47]⟩ : ByteArray) ++ a0).toList then (if 0 ≤ (wrap64 ((a0.size : Int) - 1)) then (if (wrap64 ((a0.size : Int) - 1)) < (a0.size : Int) then (if (bt a0 (wrap64 ((a0.size : Int) - 1))) = 47 then (some true) else (if a0.size + 1 ≤ 9223372036854775807 then (some (t111.toList == (a0 ++ (⟨#[47]⟩ : ByteArray)).toList)) else (none))) else (none)) else (none)) else (some false)) else (none))) else (none))) else (some false))) else (some false)) else (none)) else (none))) else (some false)) else (none))) else (some false)) = some r := H
          have A11 := Aside0.mk A110
          clear A110
          by_cases c12 : t115.toList = t112.toList
          · rw [if_pos c12] at H
            have c12b0 : (t115.toList == t112.toList) = true := beq_iff_eq.mpr c12
            have c12b1 : (t115.toList != t112.toList) = false := bne_eq_false_iff_eq.mpr c12
            clear c12
            by_cases c13 : t110.toList = ([] : List UInt8)
            · rw [if_pos c13] at H
              have c13b0 : (t110.toList == ([] : List UInt8)) = true := beq_iff_eq.mpr c13
              have c13b1 : (t110.toList != ([] : List UInt8)) = false := bne_eq_false_iff_eq.mpr c13
              clear c13
              obtain rfl := Option.some.inj H
              go_enter Try.func7, Try.ntmps7
              go_wp2_with (first | ((with_reducible refine gate_callee (f := 20) rfl ?_); refine goesL_ (some 13) rfl rfl Try.func20 (by kernel_rfl) rfl #[.string a0] rfl (by (try simp only [List.map_toArray, List.map_cons, List.map_nil]); first | done | rfl | (simp only [List.length_drop, List.length_take]; rfl)) ?_; (with_reducible refine (impl_AddLeadingSlash.calls a0 t110 _ A4.out).mono ?_); rintro e w' ⟨rfl, ⟨nd, rfl⟩⟩; refine ⟨_, rfl, ?_⟩) | ((with_reducible refine gate_callee (f := 21) rfl ?_); refine goesL_ (some 15) rfl rfl Try.func21 (by kernel_rfl) rfl #[.string a0] rfl (by (try simp only [List.map_toArray, List.map_cons, List.map_nil]); first | done | rfl | (simp only [List.length_drop, List.length_take]; rfl)) ?_; (with_reducible refine (impl_AddTrailingSlash.calls a0 t111 _ A5.out).mono ?_); rintro e w' ⟨rfl, ⟨nd, rfl⟩⟩; refine ⟨_, rfl, ?_⟩) | ((with_reducible refine gate_callee (f := 22) rfl ?_); refine goesL_ (some 17) rfl rfl Try.func22 (by kernel_rfl) rfl #[.string a0] rfl (by (try simp only [List.map_toArray, List.map_cons, List.map_nil]); first | done | rfl | (simp only [List.length_drop, List.length_take]; rfl)) ?_; (with_reducible refine (impl_AddBothSlashes.calls a0 t112 _ A6.out).mono ?_); rintro e w' ⟨rfl, ⟨nd, rfl⟩⟩; refine ⟨_, rfl, ?_⟩) | ((with_reducible refine gate_callee (f := 20) rfl ?_); refine goesL_ (some 19) rfl rfl Try.func20 (by kernel_rfl) rfl #[.string t110] rfl (by (try simp only [List.map_toArray, List.map_cons, List.map_nil]); first | done | rfl | (simp only [List.length_drop, List.length_take]; rfl)) ?_; (with_reducible refine (impl_AddLeadingSlash.calls t110 t113 _ A7.out).mono ?_); rintro e w' ⟨rfl, ⟨nd, rfl⟩⟩; refine ⟨_, rfl, ?_⟩) | (go_at_call 21; (with_reducible refine (impl_AddTrailingSlash.calls t111 t114 _ A9.out).mono ?_); rintro e w' ⟨rfl, ⟨nd, rfl⟩⟩) | (go_at_call 22; (with_reducible refine (impl_AddBothSlashes.calls t112 t115 _ A11.out).mono ?_); rintro e w' ⟨rfl, ⟨nd, rfl⟩⟩))
              go_ret
              exact ⟨by first | rfl | (simp; done) | (simp [*]; done), by repeat (first | exact Drawn0.refl _ | apply Drawn0.step)⟩
            · rw [if_neg c13] at H
              have c13b0 : (t110.toList == ([] : List UInt8)) = false := beq_eq_false_iff_ne.mpr c13
              have c13b1 : (t110.toList != ([] : List UInt8)) = true := bne_iff_ne.mpr c13
              by_cases c14 : 0 < (t110.size : Int)
              · rw [if_pos c14] at H
                have c14b0 : decide (0 < (t110.size : Int)) = true := decide_eq_true c14
                have c14b1 : decide (0 < t110.size) = true := decide_eq_true (by omega)
                clear c14
                by_cases c16 : (bt t110 0) = 47
                · rw [if_pos c16] at H
                  have c16b0 : ((bt t110 0) == 47) = true := beq_iff_eq.mpr c16
                  have c16b1 : ((bt t110 0) != 47) = false := bne_eq_false_iff_eq.mpr c16
                  clear c16
                  by_cases c17 : t111.toList = ([] : List UInt8)
                  · rw [if_pos c17] at H
                    have c17b0 : (t111.toList == ([] : List UInt8)) = true := beq_iff_eq.mpr c17
                    have c17b1 : (t111.toList != ([] : List UInt8)) = false := bne_eq_false_iff_eq.mpr c17
                    clear c17
                    obtain rfl := Option.some.inj H
                    go_enter Try.func7, Try.ntmps7
                    go_wp2_with (first | ((with_reducible refine gate_callee (f := 20) rfl ?_); refine goesL_ (some 13) rfl rfl Try.func20 (by kernel_rfl) rfl #[.string a0] rfl (by (try simp only [List.map_toArray, List.map_cons, List.map_nil]); first | done | rfl | (simp only [List.length_drop, List.length_take]; rfl)) ?_; (with_reducible refine (impl_AddLeadingSlash.calls a0 t110 _ A4.out).mono ?_); rintro e w' ⟨rfl, ⟨nd, rfl⟩⟩; refine ⟨_, rfl, ?_⟩) | ((with_reducible refine gate_callee (f := 21) rfl ?_); refine goesL_ (some 15) rfl rfl Try.func21 (by kernel_rfl) rfl #[.string a0] rfl (by (try simp only [List.map_toArray, List.map_cons, List.map_nil]); first | done | rfl | (simp only [List.length_drop, List.length_take]; rfl)) ?_; (with_reducible refine (impl_AddTrailingSlash.calls a0 t111 _ A5.out).mono ?_); rintro e w' ⟨rfl, ⟨nd, rfl⟩⟩; refine ⟨_, rfl, ?_⟩) | ((with_reducible refine gate_callee (f := 22) rfl ?_); refine goesL_ (some 17) rfl rfl Try.func22 (by kernel_rfl) rfl #[.string a0] rfl (by (try simp only [List.map_toArray, List.map_cons, List.map_nil]); first | done | rfl | (simp only [List.length_drop, List.length_take]; rfl)) ?_; (with_reducible refine (impl_AddBothSlashes.calls a0 t112 _ A6.out).mono ?_); rintro e w' ⟨rfl, ⟨nd, rfl⟩⟩; refine ⟨_, rfl, ?_⟩) | ((with_reducible refine gate_callee (f := 20) rfl ?_); refine goesL_ (some 19) rfl rfl Try.func20 (by kernel_rfl) rfl #[.string t110] rfl (by (try simp only [List.map_toArray, List.map_cons, List.map_nil]); first | done | rfl | (simp only [List.length_drop, List.length_take]; rfl)) ?_; (with_reducible refine (impl_AddLeadingSlash.calls t110 t113 _ A7.out).mono ?_); rintro e w' ⟨rfl, ⟨nd, rfl⟩⟩; refine ⟨_, rfl, ?_⟩) | (go_at_call 21; (with_reducible refine (impl_AddTrailingSlash.calls t111 t114 _ A9.out).mono ?_); rintro e w' ⟨rfl, ⟨nd, rfl⟩⟩) | (go_at_call 22; (with_reducible refine (impl_AddBothSlashes.calls t112 t115 _ A11.out).mono ?_); rintro e w' ⟨rfl, ⟨nd, rfl⟩⟩; have p15 : 0 ≤ (0 : Int) := (by omega); have q15 : 0 < t110.size := (by have : (0 : Int) < (t110.size : Int) := of_decide_eq_true (by first | (with_reducible assumption) | assumption); omega); have hx15 : ∀ h : 0 < t110.size, ((t110[0]'h).toNat : Int) = bt t110 0 := bt_at t110 0; clear p15; have qi15 : (0 < (t110.size : Int)) = True := eq_true (of_decide_eq_true (by first | (with_reducible assumption) | assumption)); replace q15 := eq_true q15))
                    go_ret
                    exact ⟨by first | rfl | (simp; done) | (simp [*]; done), by repeat (first | exact Drawn0.refl _ | apply Drawn0.step)⟩
                  · rw [if_neg c17] at H
                    have c17b0 : (t111.toList == ([] : List UInt8)) = false := beq_eq_false_iff_ne.mpr c17
                    have c17b1 : (t111.toList != ([] : List UInt8)) = true := bne_iff_ne.mpr c17
                    obtain ⟨ji18, hji18⟩ : ∃ j_ : Int, (wrap64 ((t111.size : Int) - 1)) = j_ := ⟨_, rfl⟩
                    replace H : (if 0 ≤ (ji18) then (if (ji18) < (t111.size : Int) then (if (bt t111 (ji18)) = 47 then ((impl_AddTrailingSlash.f t110).bind fun t116 => (if t112.toList = t116.toList then (if a0.toList = ([] : List UInt8) then (some true) else (if 0 < (a0.size : Int) then (if (bt a0 0) = 47 then (if 0 ≤ (wrap64 ((a0.size : Int) - 1)) then (if (wrap64 ((a0.size : Int) - 1)) < (a0.size : Int) then (if (bt a0 (wrap64 ((a0.size : Int) - 1))) = 47 then (some true) else (if a0.size + 1 ≤ 9223372036854775807 then (some (t111.toList == (a0 ++ (⟨#[47]⟩ : ByteArray)).toList)) else (none))) else (none)) else (none)) else (if 1 + a0.size ≤ 9223372036854775807 then (if t110.toList = ((⟨#[47]⟩ : ByteArray) ++ a0).toList then (if 0 ≤ (wrap64 ((a0.size : Int) - 1)) then (if (wrap64 ((a0.size : Int) - 1)) < (a0.size : Int) then (if (bt a0 (wrap64 ((a0.size : Int) - 1))) = 47 then (some true) else (if a0.size + 1 ≤ 9223372036854775807 then (some (t111.toList == (a0 ++ (⟨#[47]⟩ : ByteArray)).toList)) else (none))) else (none)) else (none)) else (some false)) else (none))) else (none))) else (some false))) else (some false)) else (none)) else (none)) = some r := by first | (rw [hji18] at H; exact H) | (simp only [hji18] at H ⊢; exact H)
                    (try rw [hji18] at A4)
                    (try rw [hji18] at A5)
                    (try rw [hji18] at A6)
                    (try rw [hji18] at A7)
                    (try rw [hji18] at A9)
                    (try rw [hji18] at A11)
                    have hji18w : (IntKind.i64.wrap ((t111.size : Int) - 1)) = ji18 := (i64_w _).trans hji18
                    by_cases c19 : 0 ≤ (ji18)
                    · rw [if_pos c19] at H
                      have c19b0 : decide (0 ≤ (ji18)) = true := decide_eq_true c19
                      clear c19
                      by_cases c20 : (ji18) < (t111.size : Int)
                      · rw [if_pos c20] at H
                        have c20b0 : decide ((ji18) < (t111.size : Int)) = true := decide_eq_true c20
                        clear c20
                        by_cases c22 : (bt t111 (ji18)) = 47
                        · rw [if_pos c22] at H
                          have c22b0 : ((bt t111 (ji18)) == 47) = true := beq_iff_eq.mpr c22
                          have c22b1 : ((bt t111 (ji18)) != 47) = false := bne_eq_false_iff_eq.mpr c22
                          clear c22
                          replace H := Option.bind_eq_some_iff.mp H
                          obtain ⟨t116, A230, H⟩ := H
                          replace H : (if t112.toList = t116.toList then (if a0.toList = ([] : List UInt8) then (some true) else (if 0 < (a0.size : Int) then (if (bt a0 0) = 47 then (if 0 ≤ (wrap64 ((a0.size : Int) - 1)) then (if (wrap64 ((a0.size : Int) - 1)) < (a0.size : Int) then (if (bt a0 (wrap64 ((a0.size : Int) - 1))) = 47 then (some true) else (if a0.size + 1 ≤ 9223372036854775807 then (some (t111.toList == (a0 ++ (⟨#[47]⟩ : ByteArray)).toList)) else (none))) else (none)) else (none)) else (if 1 + a0.size ≤ 9223372036854775807 then (if t110.toList = ((⟨#[47]⟩ : ByteArray) ++ a0).toList then (if 0 ≤ (wrap64 ((a0.size : Int) - 1)) then (if (wrap64 ((a0.size : Int) - 1)) < (a0.size : Int) then (if (bt a0 (wrap64 ((a0.size : Int) - 1))) = 47 then (some true) else (if a0.size + 1 ≤ 9223372036854775807 then (some (t111.toList == (a0 ++ (⟨#[47]⟩ : ByteArray)).toList)) else (none))) else (none)) else (none)) else (some false)) else (none))) else (none))) else (some false)) = some r := H
                          have A23 := Aside0.mk A230
                          clear A230
                          by_cases c24 : t112.toList = t116.toList
                          · rw [if_pos c24] at H
                            have c24b0 : (t112.toList == t116.toList) = true := beq_iff_eq.mpr c24
                            have c24b1 : (t112.toList != t116.toList) = false := bne_eq_false_iff_eq.mpr c24
                            clear c24
                            by_cases c25 : a0.toList = ([] : List UInt8)
                            · rw [if_pos c25] at H
                              have c25b0 : (a0.toList == ([] : List UInt8)) = true := beq_iff_eq.mpr c25
                              have c25b1 : (a0.toList != ([] : List UInt8)) = false := bne_eq_false_iff_eq.mpr c25
                              clear c25
                              obtain rfl := Option.some.inj H
                              go_enter Try.func7, Try.ntmps7
                              go_wp2_with (first | ((with_reducible refine gate_callee (f := 20) rfl ?_); refine goesL_ (some 13) rfl rfl Try.func20 (by kernel_rfl) rfl #[.string a0] rfl (by (try simp only [List.map_toArray, List.map_cons, List.map_nil]); first | done | rfl | (simp only [List.length_drop, List.length_take]; rfl)) ?_; (with_reducible refine (impl_AddLeadingSlash.calls a0 t110 _ A4.out).mono ?_); rintro e w' ⟨rfl, ⟨nd, rfl⟩⟩; refine ⟨_, rfl, ?_⟩) | ((with_reducible refine gate_callee (f := 21) rfl ?_); refine goesL_ (some 15) rfl rfl Try.func21 (by kernel_rfl) rfl #[.string a0] rfl (by (try simp only [List.map_toArray, List.map_cons, List.map_nil]); first | done | rfl | (simp only [List.length_drop, List.length_take]; rfl)) ?_; (with_reducible refine (impl_AddTrailingSlash.calls a0 t111 _ A5.out).mono ?_); rintro e w' ⟨rfl, ⟨nd, rfl⟩⟩; refine ⟨_, rfl, ?_⟩) | ((with_reducible refine gate_callee (f := 22) rfl ?_); refine goesL_ (some 17) rfl rfl Try.func22 (by kernel_rfl) rfl #[.string a0] rfl (by (try simp only [List.map_toArray, List.map_cons, List.map_nil]); first | done | rfl | (simp only [List.length_drop, List.length_take]; rfl)) ?_; (with_reducible refine (impl_AddBothSlashes.calls a0 t112 _ A6.out).mono ?_); rintro e w' ⟨rfl, ⟨nd, rfl⟩⟩; refine ⟨_, rfl, ?_⟩) | ((with_reducible refine gate_callee (f := 20) rfl ?_); refine goesL_ (some 19) rfl rfl Try.func20 (by kernel_rfl) rfl #[.string t110] rfl (by (try simp only [List.map_toArray, List.map_cons, List.map_nil]); first | done | rfl | (simp only [List.length_drop, List.length_take]; rfl)) ?_; (with_reducible refine (impl_AddLeadingSlash.calls t110 t113 _ A7.out).mono ?_); rintro e w' ⟨rfl, ⟨nd, rfl⟩⟩; refine ⟨_, rfl, ?_⟩) | (go_at_call 21; (with_reducible refine (impl_AddTrailingSlash.calls t111 t114 _ A9.out).mono ?_); rintro e w' ⟨rfl, ⟨nd, rfl⟩⟩) | (go_at_call 22; (with_reducible refine (impl_AddBothSlashes.calls t112 t115 _ A11.out).mono ?_); rintro e w' ⟨rfl, ⟨nd, rfl⟩⟩; have p15 : 0 ≤ (0 : Int) := (by omega); have q15 : 0 < t110.size := (by have : (0 : Int) < (t110.size : Int) := of_decide_eq_true (by first | (with_reducible assumption) | assumption); omega); have hx15 : ∀ h : 0 < t110.size, ((t110[0]'h).toNat : Int) = bt t110 0 := bt_at t110 0; clear p15; have qi15 : (0 < (t110.size : Int)) = True := eq_true (of_decide_eq_true (by first | (with_reducible assumption) | assumption)); replace q15 := eq_true q15; have p21 : 0 ≤ ((ji18) : Int) := of_decide_eq_true (by first | (with_reducible assumption) | assumption); have q21 : (ji18) < (t111.size : Int) := of_decide_eq_true (by first | (with_reducible assumption) | assumption); have hx21 := bt_at t111 (ji18); replace p21 := eq_true p21; replace q21 := eq_true q21) | (go_at_call 21; (with_reducible refine (impl_AddTrailingSlash.calls t110 t116 _ A23.out).mono ?_); rintro e w' ⟨rfl, ⟨nd, rfl⟩⟩))
                              go_ret
                              exact ⟨by first | rfl | (simp; done) | (simp only [← hji18] <;> (first | rfl | simp)) | (simp [*]; done), by repeat (first | exact Drawn0.refl _ | apply Drawn0.step)⟩
                            · rw [if_neg c25] at H
                              have c25b0 : (a0.toList == ([] : List UInt8)) = false := beq_eq_false_iff_ne.mpr c25
                              have c25b1 : (a0.toList != ([] : List UInt8)) = true := bne_iff_ne.mpr c25
                              by_cases c26 : 0 < (a0.size : Int)
                              · rw [if_pos c26] at H
                                have c26b0 : decide (0 < (a0.size : Int)) = true := decide_eq_true c26
                                have c26b1 : decide (0 < a0.size) = true := decide_eq_true (by omega)
                                clear c26
                                by_cases c28 : (bt a0 0) = 47
                                · rw [if_pos c28] at H
                                  have c28b0 : ((bt a0 0) == 47) = true := beq_iff_eq.mpr c28
                                  have c28b1 : ((bt a0 0) != 47) = false := bne_eq_false_iff_eq.mpr c28
                                  clear c28
                                  obtain ⟨ji29, hji29⟩ : ∃ j_ : Int, (wrap64 ((a0.size : Int) - 1)) = j_ := ⟨_, rfl⟩
                                  replace H : (if 0 ≤ (ji29) then (if (ji29) < (a0.size : Int) then (if (bt a0 (ji29)) = 47 then (some true) else (if a0.size + 1 ≤ 9223372036854775807 then (some (t111.toList == (a0 ++ (⟨#[47]⟩ : ByteArray)).toList)) else (none))) else (none)) else (none)) = some r := by first | (rw [hji29] at H; exact H) | (simp only [hji29] at H ⊢; exact H)
                                  (try rw [hji29] at A4)
                                  (try rw [hji29] at A5)
                                  (try rw [hji29] at A6)
                                  (try rw [hji29] at A7)
                                  (try rw [hji29] at A9)
                                  (try rw [hji29] at A11)
                                  (try rw [hji29] at A23)
                                  have hji29w : (IntKind.i64.wrap ((a0.size : Int) - 1)) = ji29 := (i64_w _).trans hji29
                                  by_cases c30 : 0 ≤ (ji29)
                                  · rw [if_pos c30] at H
                                    have c30b0 : decide (0 ≤ (ji29)) = true := decide_eq_true c30
                                    clear c30
                                    by_cases c31 : (ji29) < (a0.size : Int)
                                    · rw [if_pos c31] at H
                                      have c31b0 : decide ((ji29) < (a0.size : Int)) = true := decide_eq_true c31
                                      clear c31
                                      by_cases c33 : (bt a0 (ji29)) = 47
                                      · rw [if_pos c33] at H
                                        have c33b0 : ((bt a0 (ji29)) == 47) = true := beq_iff_eq.mpr c33
                                        have c33b1 : ((bt a0 (ji29)) != 47) = false := bne_eq_false_iff_eq.mpr c33
                                        clear c33
                                        obtain rfl := Option.some.inj H
                                        go_enter Try.func7, Try.ntmps7
                                        go_wp2_with (first | ((with_reducible refine gate_callee (f := 20) rfl ?_); refine goesL_ (some 13) rfl rfl Try.func20 (by kernel_rfl) rfl #[.string a0] rfl (by (try simp only [List.map_toArray, List.map_cons, List.map_nil]); first | done | rfl | (simp only [List.length_drop, List.length_take]; rfl)) ?_; (with_reducible refine (impl_AddLeadingSlash.calls a0 t110 _ A4.out).mono ?_); rintro e w' ⟨rfl, ⟨nd, rfl⟩⟩; refine ⟨_, rfl, ?_⟩) | ((with_reducible refine gate_callee (f := 21) rfl ?_); refine goesL_ (some 15) rfl rfl Try.func21 (by kernel_rfl) rfl #[.string a0] rfl (by (try simp only [List.map_toArray, List.map_cons, List.map_nil]); first | done | rfl | (simp only [List.length_drop, List.length_take]; rfl)) ?_; (with_reducible refine (impl_AddTrailingSlash.calls a0 t111 _ A5.out).mono ?_); rintro e w' ⟨rfl, ⟨nd, rfl⟩⟩; refine ⟨_, rfl, ?_⟩) | ((with_reducible refine gate_callee (f := 22) rfl ?_); refine goesL_ (some 17) rfl rfl Try.func22 (by kernel_rfl) rfl #[.string a0] rfl (by (try simp only [List.map_toArray, List.map_cons, List.map_nil]); first | done | rfl | (simp only [List.length_drop, List.length_take]; rfl)) ?_; (with_reducible refine (impl_AddBothSlashes.calls a0 t112 _ A6.out).mono ?_); rintro e w' ⟨rfl, ⟨nd, rfl⟩⟩; refine ⟨_, rfl, ?_⟩) | ((with_reducible refine gate_callee (f := 20) rfl ?_); refine goesL_ (some 19) rfl rfl Try.func20 (by kernel_rfl) rfl #[.string t110] rfl (by (try simp only [List.map_toArray, List.map_cons, List.map_nil]); first | done | rfl | (simp only [List.length_drop, List.length_take]; rfl)) ?_; (with_reducible refine (impl_AddLeadingSlash.calls t110 t113 _ A7.out).mono ?_); rintro e w' ⟨rfl, ⟨nd, rfl⟩⟩; refine ⟨_, rfl, ?_⟩) | (go_at_call 21; (with_reducible refine (impl_AddTrailingSlash.calls t111 t114 _ A9.out).mono ?_); rintro e w' ⟨rfl, ⟨nd, rfl⟩⟩) | (go_at_call 22; (with_reducible refine (impl_AddBothSlashes.calls t112 t115 _ A11.out).mono ?_); rintro e w' ⟨rfl, ⟨nd, rfl⟩⟩; have p15 : 0 ≤ (0 : Int) := (by omega); have q15 : 0 < t110.size := (by have : (0 : Int) < (t110.size : Int) := of_decide_eq_true (by first | (with_reducible assumption) | assumption); omega); have hx15 : ∀ h : 0 < t110.size, ((t110[0]'h).toNat : Int) = bt t110 0 := bt_at t110 0; clear p15; have qi15 : (0 < (t110.size : Int)) = True := eq_true (of_decide_eq_true (by first | (with_reducible assumption) | assumption)); replace q15 := eq_true q15; have p21 : 0 ≤ ((ji18) : Int) := of_decide_eq_true (by first | (with_reducible assumption) | assumption); have q21 : (ji18) < (t111.size : Int) := of_decide_eq_true (by first | (with_reducible assumption) | assumption); have hx21 := bt_at t111 (ji18); replace p21 := eq_true p21; replace q21 := eq_true q21) | (go_at_call 21; (with_reducible refine (impl_AddTrailingSlash.calls t110 t116 _ A23.out).mono ?_); rintro e w' ⟨rfl, ⟨nd, rfl⟩⟩; have p27 : 0 ≤ (0 : Int) := (by omega); have q27 : 0 < a0.size := (by have : (0 : Int) < (a0.size : Int) := of_decide_eq_true (by first | (with_reducible assumption) | assumption); omega); have hx27 : ∀ h : 0 < a0.size, ((a0[0]'h).toNat : Int) = bt a0 0 := bt_at a0 0; clear p27; have qi27 : (0 < (a0.size : Int)) = True := eq_true (of_decide_eq_true (by first | (with_reducible assumption) | assumption)); replace q27 := eq_true q27; have p32 : 0 ≤ ((ji29) : Int) := of_decide_eq_true (by first | (with_reducible assumption) | assumption); have q32 : (ji29) < (a0.size : Int) := of_decide_eq_true (by first | (with_reducible assumption) | assumption); have hx32 := bt_at a0 (ji29); replace p32 := eq_true p32; replace q32 := eq_true q32))
                                        go_ret
                                        exact ⟨by first | rfl | (simp; done) | (simp only [← hji18, ← hji29] <;> (first | rfl | simp)) | (simp [*]; done), by repeat (first | exact Drawn0.refl _ | apply Drawn0.step)⟩
                                      · rw [if_neg c33] at H
                                        have c33b0 : ((bt a0 (ji29)) == 47) = false := beq_eq_false_iff_ne.mpr c33
                                        have c33b1 : ((bt a0 (ji29)) != 47) = true := bne_iff_ne.mpr c33
                                        by_cases c34 : a0.size + 1 ≤ 9223372036854775807
                                        · rw [if_pos c34] at H
                                          have c34b0 := eq_true c34
                                          have c34b1 : decide (a0.size + 1 ≤ 9223372036854775807) = true := decide_eq_true c34
                                          try have c34b2 : (9223372036854775807 < a0.size + 1) = False := eq_false (Nat.not_lt.2 c34)
                                          obtain rfl := Option.some.inj H
                                          go_enter Try.func7, Try.ntmps7
                                          go_wp2_with (first | ((with_reducible refine gate_callee (f := 20) rfl ?_); refine goesL_ (some 13) rfl rfl Try.func20 (by kernel_rfl) rfl #[.string a0] rfl (by (try simp only [List.map_toArray, List.map_cons, List.map_nil]); first | done | rfl | (simp only [List.length_drop, List.length_take]; rfl)) ?_; (with_reducible refine (impl_AddLeadingSlash.calls a0 t110 _ A4.out).mono ?_); rintro e w' ⟨rfl, ⟨nd, rfl⟩⟩; refine ⟨_, rfl, ?_⟩) | ((with_reducible refine gate_callee (f := 21) rfl ?_); refine goesL_ (some 15) rfl rfl Try.func21 (by kernel_rfl) rfl #[.string a0] rfl (by (try simp only [List.map_toArray, List.map_cons, List.map_nil]); first | done | rfl | (simp only [List.length_drop, List.length_take]; rfl)) ?_; (with_reducible refine (impl_AddTrailingSlash.calls a0 t111 _ A5.out).mono ?_); rintro e w' ⟨rfl, ⟨nd, rfl⟩⟩; refine ⟨_, rfl, ?_⟩) | ((with_reducible refine gate_callee (f := 22) rfl ?_); refine goesL_ (some 17) rfl rfl Try.func22 (by kernel_rfl) rfl #[.string a0] rfl (by (try simp only [List.map_toArray, List.map_cons, List.map_nil]); first | done | rfl | (simp only [List.length_drop, List.length_take]; rfl)) ?_; (with_reducible refine (impl_AddBothSlashes.calls a0 t112 _ A6.out).mono ?_); rintro e w' ⟨rfl, ⟨nd, rfl⟩⟩; refine ⟨_, rfl, ?_⟩) | ((with_reducible refine gate_callee (f := 20) rfl ?_); refine goesL_ (some 19) rfl rfl Try.func20 (by kernel_rfl) rfl #[.string t110] rfl (by (try simp only [List.map_toArray, List.map_cons, List.map_nil]); first | done | rfl | (simp only [List.length_drop, List.length_take]; rfl)) ?_; (with_reducible refine (impl_AddLeadingSlash.calls t110 t113 _ A7.out).mono ?_); rintro e w' ⟨rfl, ⟨nd, rfl⟩⟩; refine ⟨_, rfl, ?_⟩) | (go_at_call 21; (with_reducible refine (impl_AddTrailingSlash.calls t111 t114 _ A9.out).mono ?_); rintro e w' ⟨rfl, ⟨nd, rfl⟩⟩) | (go_at_call 22; (with_reducible refine (impl_AddBothSlashes.calls t112 t115 _ A11.out).mono ?_); rintro e w' ⟨rfl, ⟨nd, rfl⟩⟩; have p15 : 0 ≤ (0 : Int) := (by omega); have q15 : 0 < t110.size := (by have : (0 : Int) < (t110.size : Int) := of_decide_eq_true (by first | (with_reducible assumption) | assumption); omega); have hx15 : ∀ h : 0 < t110.size, ((t110[0]'h).toNat : Int) = bt t110 0 := bt_at t110 0; clear p15; have qi15 : (0 < (t110.size : Int)) = True := eq_true (of_decide_eq_true (by first | (with_reducible assumption) | assumption)); replace q15 := eq_true q15; have p21 : 0 ≤ ((ji18) : Int) := of_decide_eq_true (by first | (with_reducible assumption) | assumption); have q21 : (ji18) < (t111.size : Int) := of_decide_eq_true (by first | (with_reducible assumption) | assumption); have hx21 := bt_at t111 (ji18); replace p21 := eq_true p21; replace q21 := eq_true q21) | (go_at_call 21; (with_reducible refine (impl_AddTrailingSlash.calls t110 t116 _ A23.out).mono ?_); rintro e w' ⟨rfl, ⟨nd, rfl⟩⟩; have p27 : 0 ≤ (0 : Int) := (by omega); have q27 : 0 < a0.size := (by have : (0 : Int) < (a0.size : Int) := of_decide_eq_true (by first | (with_reducible assumption) | assumption); omega); have hx27 : ∀ h : 0 < a0.size, ((a0[0]'h).toNat : Int) = bt a0 0 := bt_at a0 0; clear p27; have qi27 : (0 < (a0.size : Int)) = True := eq_true (of_decide_eq_true (by first | (with_reducible assumption) | assumption)); replace q27 := eq_true q27; have p32 : 0 ≤ ((ji29) : Int) := of_decide_eq_true (by first | (with_reducible assumption) | assumption); have q32 : (ji29) < (a0.size : Int) := of_decide_eq_true (by first | (with_reducible assumption) | assumption); have hx32 := bt_at a0 (ji29); replace p32 := eq_true p32; replace q32 := eq_true q32))
                                          go_ret
                                          exact ⟨by first | rfl | (simp; done) | (simp only [← hji18, ← hji29] <;> (first | rfl | simp)) | (simp [*]; done), by repeat (first | exact Drawn0.refl _ | apply Drawn0.step)⟩
                                        · rw [if_neg c34] at H
                                          exact absurd H (by simp)
                                    · rw [if_neg c31] at H
                                      exact absurd H (by simp)
                                  · rw [if_neg c30] at H
                                    exact absurd H (by simp)
                                · rw [if_neg c28] at H
                                  have c28b0 : ((bt a0 0) == 47) = false := beq_eq_false_iff_ne.mpr c28
                                  have c28b1 : ((bt a0 0) != 47) = true := bne_iff_ne.mpr c28
                                  by_cases c35 : 1 + a0.size ≤ 9223372036854775807
                                  · rw [if_pos c35] at H
                                    have c35b0 := eq_true c35
                                    have c35b1 : decide (1 + a0.size ≤ 9223372036854775807) = true := decide_eq_true c35
                                    try have c35b2 : (9223372036854775807 < 1 + a0.size) = False := eq_false (Nat.not_lt.2 c35)
                                    by_cases c36 : t110.toList = ((⟨#[47]⟩ : ByteArray) ++ a0).toList
                                    · rw [if_pos c36] at H
                                      have c36b0 : (t110.toList == ((⟨#[47]⟩ : ByteArray) ++ a0).toList) = true := beq_iff_eq.mpr c36
                                      have c36b1 : (t110.toList != ((⟨#[47]⟩ : ByteArray) ++ a0).toList) = false := bne_eq_false_iff_eq.mpr c36
                                      clear c36
                                      obtain ⟨ji37, hji37⟩ : ∃ j_ : Int, (wrap64 ((a0.size : Int) - 1)) = j_ := ⟨_, rfl⟩
                                      replace H : (if 0 ≤ (ji37) then (if (ji37) < (a0.size : Int) then (if (bt a0 (ji37)) = 47 then (some true) else (if a0.size + 1 ≤ 9223372036854775807 then (some (t111.toList == (a0 ++ (⟨#[47]⟩ : ByteArray)).toList)) else (none))) else (none)) else (none)) = some r := by first | (rw [hji37] at H; exact H) | (simp only [hji37] at H ⊢; exact H)
                                      (try rw [hji37] at A4)
                                      (try rw [hji37] at A5)
                                      (try rw [hji37] at A6)
                                      (try rw [hji37] at A7)
                                      (try rw [hji37] at A9)
                                      (try rw [hji37] at A11)
                                      (try rw [hji37] at A23)
                                      have hji37w : (IntKind.i64.wrap ((a0.size : Int) - 1)) = ji37 := (i64_w _).trans hji37
                                      by_cases c38 : 0 ≤ (ji37)
                                      · rw [if_pos c38] at H
                                        have c38b0 : decide (0 ≤ (ji37)) = true := decide_eq_true c38
                                        clear c38
                                        by_cases c39 : (ji37) < (a0.size : Int)
                                        · rw [if_pos c39] at H
                                          have c39b0 : decide ((ji37) < (a0.size : Int)) = true := decide_eq_true c39
                                          clear c39
                                          by_cases c41 : (bt a0 (ji37)) = 47
                                          · rw [if_pos c41] at H
                                            have c41b0 : ((bt a0 (ji37)) == 47) = true := beq_iff_eq.mpr c41
                                            have c41b1 : ((bt a0 (ji37)) != 47) = false := bne_eq_false_iff_eq.mpr c41
                                            clear c41
                                            obtain rfl := Option.some.inj H
                                            go_enter Try.func7, Try.ntmps7
                                            go_wp2_with (first | ((with_reducible refine gate_callee (f := 20) rfl ?_); refine goesL_ (some 13) rfl rfl Try.func20 (by kernel_rfl) rfl #[.string a0] rfl (by (try simp only [List.map_toArray, List.map_cons, List.map_nil]); first | done | rfl | (simp only [List.length_drop, List.length_take]; rfl)) ?_; (with_reducible refine (impl_AddLeadingSlash.calls a0 t110 _ A4.out).mono ?_); rintro e w' ⟨rfl, ⟨nd, rfl⟩⟩; refine ⟨_, rfl, ?_⟩) | ((with_reducible refine gate_callee (f := 21) rfl ?_); refine goesL_ (some 15) rfl rfl Try.func21 (by kernel_rfl) rfl #[.string a0] rfl (by (try simp only [List.map_toArray, List.map_cons, List.map_nil]); first | done | rfl | (simp only [List.length_drop, List.length_take]; rfl)) ?_; (with_reducible refine (impl_AddTrailingSlash.calls a0 t111 _ A5.out).mono ?_); rintro e w' ⟨rfl, ⟨nd, rfl⟩⟩; refine ⟨_, rfl, ?_⟩) | ((with_reducible refine gate_callee (f := 22) rfl ?_); refine goesL_ (some 17) rfl rfl Try.func22 (by kernel_rfl) rfl #[.string a0] rfl (by (try simp only [List.map_toArray, List.map_cons, List.map_nil]); first | done | rfl | (simp only [List.length_drop, List.length_take]; rfl)) ?_; (with_reducible refine (impl_AddBothSlashes.calls a0 t112 _ A6.out).mono ?_); rintro e w' ⟨rfl, ⟨nd, rfl⟩⟩; refine ⟨_, rfl, ?_⟩) | ((with_reducible refine gate_callee (f := 20) rfl ?_); refine goesL_ (some 19) rfl rfl Try.func20 (by kernel_rfl) rfl #[.string t110] rfl (by (try simp only [List.map_toArray, List.map_cons, List.map_nil]); first | done | rfl | (simp only [List.length_drop, List.length_take]; rfl)) ?_; (with_reducible refine (impl_AddLeadingSlash.calls t110 t113 _ A7.out).mono ?_); rintro e w' ⟨rfl, ⟨nd, rfl⟩⟩; refine ⟨_, rfl, ?_⟩) | (go_at_call 21; (with_reducible refine (impl_AddTrailingSlash.calls t111 t114 _ A9.out).mono ?_); rintro e w' ⟨rfl, ⟨nd, rfl⟩⟩) | (go_at_call 22; (with_reducible refine (impl_AddBothSlashes.calls t112 t115 _ A11.out).mono ?_); rintro e w' ⟨rfl, ⟨nd, rfl⟩⟩; have p15 : 0 ≤ (0 : Int) := (by omega); have q15 : 0 < t110.size := (by have : (0 : Int) < (t110.size : Int) := of_decide_eq_true (by first | (with_reducible assumption) | assumption); omega); have hx15 : ∀ h : 0 < t110.size, ((t110[0]'h).toNat : Int) = bt t110 0 := bt_at t110 0; clear p15; have qi15 : (0 < (t110.size : Int)) = True := eq_true (of_decide_eq_true (by first | (with_reducible assumption) | assumption)); replace q15 := eq_true q15; have p21 : 0 ≤ ((ji18) : Int) := of_decide_eq_true (by first | (with_reducible assumption) | assumption); have q21 : (ji18) < (t111.size : Int) := of_decide_eq_true (by first | (with_reducible assumption) | assumption); have hx21 := bt_at t111 (ji18); replace p21 := eq_true p21; replace q21 := eq_true q21) | (go_at_call 21; (with_reducible refine (impl_AddTrailingSlash.calls t110 t116 _ A23.out).mono ?_); rintro e w' ⟨rfl, ⟨nd, rfl⟩⟩; have p27 : 0 ≤ (0 : Int) := (by omega); have q27 : 0 < a0.size := (by have : (0 : Int) < (a0.size : Int) := of_decide_eq_true (by first | (with_reducible assumption) | assumption); omega); have hx27 : ∀ h : 0 < a0.size, ((a0[0]'h).toNat : Int) = bt a0 0 := bt_at a0 0; clear p27; have qi27 : (0 < (a0.size : Int)) = True := eq_true (of_decide_eq_true (by first | (with_reducible assumption) | assumption)); replace q27 := eq_true q27; have p40 : 0 ≤ ((ji37) : Int) := of_decide_eq_true (by first | (with_reducible assumption) | assumption); have q40 : (ji37) < (a0.size : Int) := of_decide_eq_true (by first | (with_reducible assumption) | assumption); have hx40 := bt_at a0 (ji37); replace p40 := eq_true p40; replace q40 := eq_true q40))
                                            go_ret
                                            exact ⟨by first | rfl | (simp; done) | (simp only [← hji18, ← hji37] <;> (first | rfl | simp)) | (simp [*]; done), by repeat (first | exact Drawn0.refl _ | apply Drawn0.step)⟩
                                          · rw [if_neg c41] at H
                                            have c41b0 : ((bt a0 (ji37)) == 47) = false := beq_eq_false_iff_ne.mpr c41
                                            have c41b1 : ((bt a0 (ji37)) != 47) = true := bne_iff_ne.mpr c41
                                            by_cases c42 : a0.size + 1 ≤ 9223372036854775807
                                            · rw [if_pos c42] at H
                                              have c42b0 := eq_true c42
                                              have c42b1 : decide (a0.size + 1 ≤ 9223372036854775807) = true := decide_eq_true c42
                                              try have c42b2 : (9223372036854775807 < a0.size + 1) = False := eq_false (Nat.not_lt.2 c42)
                                              obtain rfl := Option.some.inj H
                                              go_enter Try.func7, Try.ntmps7
                                              go_wp2_with (first | ((with_reducible refine gate_callee (f := 20) rfl ?_); refine goesL_ (some 13) rfl rfl Try.func20 (by kernel_rfl) rfl #[.string a0] rfl (by (try simp only [List.map_toArray, List.map_cons, List.map_nil]); first | done | rfl | (simp only [List.length_drop, List.length_take]; rfl)) ?_; (with_reducible refine (impl_AddLeadingSlash.calls a0 t110 _ A4.out).mono ?_); rintro e w' ⟨rfl, ⟨nd, rfl⟩⟩; refine ⟨_, rfl, ?_⟩) | ((with_reducible refine gate_callee (f := 21) rfl ?_); refine goesL_ (some 15) rfl rfl Try.func21 (by kernel_rfl) rfl #[.string a0] rfl (by (try simp only [List.map_toArray, List.map_cons, List.map_nil]); first | done | rfl | (simp only [List.length_drop, List.length_take]; rfl)) ?_; (with_reducible refine (impl_AddTrailingSlash.calls a0 t111 _ A5.out).mono ?_); rintro e w' ⟨rfl, ⟨nd, rfl⟩⟩; refine ⟨_, rfl, ?_⟩) | ((with_reducible refine gate_callee (f := 22) rfl ?_); refine goesL_ (some 17) rfl rfl Try.func22 (by kernel_rfl) rfl #[.string a0] rfl (by (try simp only [List.map_toArray, List.map_cons, List.map_nil]); first | done | rfl | (simp only [List.length_drop, List.length_take]; rfl)) ?_; (with_reducible refine (impl_AddBothSlashes.calls a0 t112 _ A6.out).mono ?_); rintro e w' ⟨rfl, ⟨nd, rfl⟩⟩; refine ⟨_, rfl, ?_⟩) | ((with_reducible refine gate_callee (f := 20) rfl ?_); refine goesL_ (some 19) rfl rfl Try.func20 (by kernel_rfl) rfl #[.string t110] rfl (by (try simp only [List.map_toArray, List.map_cons, List.map_nil]); first | done | rfl | (simp only [List.length_drop, List.length_take]; rfl)) ?_; (with_reducible refine (impl_AddLeadingSlash.calls t110 t113 _ A7.out).mono ?_); rintro e w' ⟨rfl, ⟨nd, rfl⟩⟩; refine ⟨_, rfl, ?_⟩) | (go_at_call 21; (with_reducible refine (impl_AddTrailingSlash.calls t111 t114 _ A9.out).mono ?_); rintro e w' ⟨rfl, ⟨nd, rfl⟩⟩) | (go_at_call 22; (with_reducible refine (impl_AddBothSlashes.calls t112 t115 _ A11.out).mono ?_); rintro e w' ⟨rfl, ⟨nd, rfl⟩⟩; have p15 : 0 ≤ (0 : Int) := (by omega); have q15 : 0 < t110.size := (by have : (0 : Int) < (t110.size : Int) := of_decide_eq_true (by first | (with_reducible assumption) | assumption); omega); have hx15 : ∀ h : 0 < t110.size, ((t110[0]'h).toNat : Int) = bt t110 0 := bt_at t110 0; clear p15; have qi15 : (0 < (t110.size : Int)) = True := eq_true (of_decide_eq_true (by first | (with_reducible assumption) | assumption)); replace q15 := eq_true q15; have p21 : 0 ≤ ((ji18) : Int) := of_decide_eq_true (by first | (with_reducible assumption) | assumption); have q21 : (ji18) < (t111.size : Int) := of_decide_eq_true (by first | (with_reducible assumption) | assumption); have hx21 := bt_at t111 (ji18); replace p21 := eq_true p21; replace q21 := eq_true q21) | (go_at_call 21; (with_reducible refine (impl_AddTrailingSlash.calls t110 t116 _ A23.out).mono ?_); rintro e w' ⟨rfl, ⟨nd, rfl⟩⟩; have p27 : 0 ≤ (0 : Int) := (by omega); have q27 : 0 < a0.size := (by have : (0 : Int) < (a0.size : Int) := of_decide_eq_true (by first | (with_reducible assumption) | assumption); omega); have hx27 : ∀ h : 0 < a0.size, ((a0[0]'h).toNat : Int) = bt a0 0 := bt_at a0 0; clear p27; have qi27 : (0 < (a0.size : Int)) = True := eq_true (of_decide_eq_true (by first | (with_reducible assumption) | assumption)); replace q27 := eq_true q27; have p40 : 0 ≤ ((ji37) : Int) := of_decide_eq_true (by first | (with_reducible assumption) | assumption); have q40 : (ji37) < (a0.size : Int) := of_decide_eq_true (by first | (with_reducible assumption) | assumption); have hx40 := bt_at a0 (ji37); replace p40 := eq_true p40; replace q40 := eq_true q40))
                                              go_ret
                                              exact ⟨by first | rfl | (simp; done) | (simp only [← hji18, ← hji37] <;> (first | rfl | simp)) | (simp [*]; done), by repeat (first | exact Drawn0.refl _ | apply Drawn0.step)⟩
                                            · rw [if_neg c42] at H
                                              exact absurd H (by simp)
                                        · rw [if_neg c39] at H
                                          exact absurd H (by simp)
                                      · rw [if_neg c38] at H
                                        exact absurd H (by simp)
                                    · rw [if_neg c36] at H
                                      have c36b0 : (t110.toList == ((⟨#[47]⟩ : ByteArray) ++ a0).toList) = false := beq_eq_false_iff_ne.mpr c36
                                      have c36b1 : (t110.toList != ((⟨#[47]⟩ : ByteArray) ++ a0).toList) = true := bne_iff_ne.mpr c36
                                      obtain rfl := Option.some.inj H
                                      go_enter Try.func7, Try.ntmps7
                                      go_wp2_with (first | ((with_reducible refine gate_callee (f := 20) rfl ?_); refine goesL_ (some 13) rfl rfl Try.func20 (by kernel_rfl) rfl #[.string a0] rfl (by (try simp only [List.map_toArray, List.map_cons, List.map_nil]); first | done | rfl | (simp only [List.length_drop, List.length_take]; rfl)) ?_; (with_reducible refine (impl_AddLeadingSlash.calls a0 t110 _ A4.out).mono ?_); rintro e w' ⟨rfl, ⟨nd, rfl⟩⟩; refine ⟨_, rfl, ?_⟩) | ((with_reducible refine gate_callee (f := 21) rfl ?_); refine goesL_ (some 15) rfl rfl Try.func21 (by kernel_rfl) rfl #[.string a0] rfl (by (try simp only [List.map_toArray, List.map_cons, List.map_nil]); first | done | rfl | (simp only [List.length_drop, List.length_take]; rfl)) ?_; (with_reducible refine (impl_AddTrailingSlash.calls a0 t111 _ A5.out).mono ?_); rintro e w' ⟨rfl, ⟨nd, rfl⟩⟩; refine ⟨_, rfl, ?_⟩) | ((with_reducible refine gate_callee (f := 22) rfl ?_); refine goesL_ (some 17) rfl rfl Try.func22 (by kernel_rfl) rfl #[.string a0] rfl (by (try simp only [List.map_toArray, List.map_cons, List.map_nil]); first | done | rfl | (simp only [List.length_drop, List.length_take]; rfl)) ?_; (with_reducible refine (impl_AddBothSlashes.calls a0 t112 _ A6.out).mono ?_); rintro e w' ⟨rfl, ⟨nd, rfl⟩⟩; refine ⟨_, rfl, ?_⟩) | ((with_reducible refine gate_callee (f := 20) rfl ?_); refine goesL_ (some 19) rfl rfl Try.func20 (by kernel_rfl) rfl #[.string t110] rfl (by (try simp only [List.map_toArray, List.map_cons, List.map_nil]); first | done | rfl | (simp only [List.length_drop, List.length_take]; rfl)) ?_; (with_reducible refine (impl_AddLeadingSlash.calls t110 t113 _ A7.out).mono ?_); rintro e w' ⟨rfl, ⟨nd, rfl⟩⟩; refine ⟨_, rfl, ?_⟩) | (go_at_call 21; (with_reducible refine (impl_AddTrailingSlash.calls t111 t114 _ A9.out).mono ?_); rintro e w' ⟨rfl, ⟨nd, rfl⟩⟩) | (go_at_call 22; (with_reducible refine (impl_AddBothSlashes.calls t112 t115 _ A11.out).mono ?_); rintro e w' ⟨rfl, ⟨nd, rfl⟩⟩; have p15 : 0 ≤ (0 : Int) := (by omega); have q15 : 0 < t110.size := (by have : (0 : Int) < (t110.size : Int) := of_decide_eq_true (by first | (with_reducible assumption) | assumption); omega); have hx15 : ∀ h : 0 < t110.size, ((t110[0]'h).toNat : Int) = bt t110 0 := bt_at t110 0; clear p15; have qi15 : (0 < (t110.size : Int)) = True := eq_true (of_decide_eq_true (by first | (with_reducible assumption) | assumption)); replace q15 := eq_true q15; have p21 : 0 ≤ ((ji18) : Int) := of_decide_eq_true (by first | (with_reducible assumption) | assumption); have q21 : (ji18) < (t111.size : Int) := of_decide_eq_true (by first | (with_reducible assumption) | assumption); have hx21 := bt_at t111 (ji18); replace p21 := eq_true p21; replace q21 := eq_true q21) | (go_at_call 21; (with_reducible refine (impl_AddTrailingSlash.calls t110 t116 _ A23.out).mono ?_); rintro e w' ⟨rfl, ⟨nd, rfl⟩⟩; have p27 : 0 ≤ (0 : Int) := (by omega); have q27 : 0 < a0.size := (by have : (0 : Int) < (a0.size : Int) := of_decide_eq_true (by first | (with_reducible assumption) | assumption); omega); have hx27 : ∀ h : 0 < a0.size, ((a0[0]'h).toNat : Int) = bt a0 0 := bt_at a0 0; clear p27; have qi27 : (0 < (a0.size : Int)) = True := eq_true (of_decide_eq_true (by first | (with_reducible assumption) | assumption)); replace q27 := eq_true q27))
                                      go_ret
                                      exact ⟨by first | rfl | (simp; done) | (simp only [← hji18] <;> (first | rfl | simp)) | (simp [*]; done), by repeat (first | exact Drawn0.refl _ | apply Drawn0.step)⟩
                                  · rw [if_neg c35] at H
                                    exact absurd H (by simp)
                              · rw [if_neg c26] at H
                                exact absurd H (by simp)
                          · rw [if_neg c24] at H
                            have c24b0 : (t112.toList == t116.toList) = false := beq_eq_false_iff_ne.mpr c24
                            have c24b1 : (t112.toList != t116.toList) = true := bne_iff_ne.mpr c24
                            obtain rfl := Option.some.inj H
                            go_enter Try.func7, Try.ntmps7
                            go_wp2_with (first | ((with_reducible refine gate_callee (f := 20) rfl ?_); refine goesL_ (some 13) rfl rfl Try.func20 (by kernel_rfl) rfl #[.string a0] rfl (by (try simp only [List.map_toArray, List.map_cons, List.map_nil]); first | done | rfl | (simp only [List.length_drop, List.length_take]; rfl)) ?_; (with_reducible refine (impl_AddLeadingSlash.calls a0 t110 _ A4.out).mono ?_); rintro e w' ⟨rfl, ⟨nd, rfl⟩⟩; refine ⟨_, rfl, ?_⟩) | ((with_reducible refine gate_callee (f := 21) rfl ?_); refine goesL_ (some 15) rfl rfl Try.func21 (by kernel_rfl) rfl #[.string a0] rfl (by (try simp only [List.map_toArray, List.map_cons, List.map_nil]); first | done | rfl | (simp only [List.length_drop, List.length_take]; rfl)) ?_; (with_reducible refine (impl_AddTrailingSlash.calls a0 t111 _ A5.out).mono ?_); rintro e w' ⟨rfl, ⟨nd, rfl⟩⟩; refine ⟨_, rfl, ?_⟩) | ((with_reducible refine gate_callee (f := 22) rfl ?_); refine goesL_ (some 17) rfl rfl Try.func22 (by kernel_rfl) rfl #[.string a0] rfl (by (try simp only [List.map_toArray, List.map_cons, List.map_nil]); first | done | rfl | (simp only [List.length_drop, List.length_take]; rfl)) ?_; (with_reducible refine (impl_AddBothSlashes.calls a0 t112 _ A6.out).mono ?_); rintro e w' ⟨rfl, ⟨nd, rfl⟩⟩; refine ⟨_, rfl, ?_⟩) | ((with_reducible refine gate_callee (f := 20) rfl ?_); refine goesL_ (some 19) rfl rfl Try.func20 (by kernel_rfl) rfl #[.string t110] rfl (by (try simp only [List.map_toArray, List.map_cons, List.map_nil]); first | done | rfl | (simp only [List.length_drop, List.length_take]; rfl)) ?_; (with_reducible refine (impl_AddLeadingSlash.calls t110 t113 _ A7.out).mono ?_); rintro e w' ⟨rfl, ⟨nd, rfl⟩⟩; refine ⟨_, rfl, ?_⟩) | (go_at_call 21; (with_reducible refine (impl_AddTrailingSlash.calls t111 t114 _ A9.out).mono ?_); rintro e w' ⟨rfl, ⟨nd, rfl⟩⟩) | (go_at_call 22; (with_reducible refine (impl_AddBothSlashes.calls t112 t115 _ A11.out).mono ?_); rintro e w' ⟨rfl, ⟨nd, rfl⟩⟩; have p15 : 0 ≤ (0 : Int) := (by omega); have q15 : 0 < t110.size := (by have : (0 : Int) < (t110.size : Int) := of_decide_eq_true (by first | (with_reducible assumption) | assumption); omega); have hx15 : ∀ h : 0 < t110.size, ((t110[0]'h).toNat : Int) = bt t110 0 := bt_at t110 0; clear p15; have qi15 : (0 < (t110.size : Int)) = True := eq_true (of_decide_eq_true (by first | (with_reducible assumption) | assumption)); replace q15 := eq_true q15; have p21 : 0 ≤ ((ji18) : Int) := of_decide_eq_true (by first | (with_reducible assumption) | assumption); have q21 : (ji18) < (t111.size : Int) := of_decide_eq_true (by first | (with_reducible assumption) | assumption); have hx21 := bt_at t111 (ji18); replace p21 := eq_true p21; replace q21 := eq_true q21) | (go_at_call 21; (with_reducible refine (impl_AddTrailingSlash.calls t110 t116 _ A23.out).mono ?_); rintro e w' ⟨rfl, ⟨nd, rfl⟩⟩))
                            go_ret
                            exact ⟨by first | rfl | (simp; done) | (simp only [← hji18] <;> (first | rfl | simp)) | (simp [*]; done), by repeat (first | exact Drawn0.refl _ | apply Drawn0.step)⟩
                        · rw [if_neg c22] at H
                          have c22b0 : ((bt t111 (ji18)) == 47) = false := beq_eq_false_iff_ne.mpr c22
                          have c22b1 : ((bt t111 (ji18)) != 47) = true := bne_iff_ne.mpr c22
                          obtain rfl := Option.some.inj H
                          go_enter Try.func7, Try.ntmps7
                          go_wp2_with (first | ((with_reducible refine gate_callee (f := 20) rfl ?_); refine goesL_ (some 13) rfl rfl Try.func20 (by kernel_rfl) rfl #[.string a0] rfl (by (try simp only [List.map_toArray, List.map_cons, List.map_nil]); first | done | rfl | (simp only [List.length_drop, List.length_take]; rfl)) ?_; (with_reducible refine (impl_AddLeadingSlash.calls a0 t110 _ A4.out).mono ?_); rintro e w' ⟨rfl, ⟨nd, rfl⟩⟩; refine ⟨_, rfl, ?_⟩) | ((with_reducible refine gate_callee (f := 21) rfl ?_); refine goesL_ (some 15) rfl rfl Try.func21 (by kernel_rfl) rfl #[.string a0] rfl (by (try simp only [List.map_toArray, List.map_cons, List.map_nil]); first | done | rfl | (simp only [List.length_drop, List.length_take]; rfl)) ?_; (with_reducible refine (impl_AddTrailingSlash.calls a0 t111 _ A5.out).mono ?_); rintro e w' ⟨rfl, ⟨nd, rfl⟩⟩; refine ⟨_, rfl, ?_⟩) | ((with_reducible refine gate_callee (f := 22) rfl ?_); refine goesL_ (some 17) rfl rfl Try.func22 (by kernel_rfl) rfl #[.string a0] rfl (by (try simp only [List.map_toArray, List.map_cons, List.map_nil]); first | done | rfl | (simp only [List.length_drop, List.length_take]; rfl)) ?_; (with_reducible refine (impl_AddBothSlashes.calls a0 t112 _ A6.out).mono ?_); rintro e w' ⟨rfl, ⟨nd, rfl⟩⟩; refine ⟨_, rfl, ?_⟩) | ((with_reducible refine gate_callee (f := 20) rfl ?_); refine goesL_ (some 19) rfl rfl Try.func20 (by kernel_rfl) rfl #[.string t110] rfl (by (try simp only [List.map_toArray, List.map_cons, List.map_nil]); first | done | rfl | (simp only [List.length_drop, List.length_take]; rfl)) ?_; (with_reducible refine (impl_AddLeadingSlash.calls t110 t113 _ A7.out).mono ?_); rintro e w' ⟨rfl, ⟨nd, rfl⟩⟩; refine ⟨_, rfl, ?_⟩) | (go_at_call 21; (with_reducible refine (impl_AddTrailingSlash.calls t111 t114 _ A9.out).mono ?_); rintro e w' ⟨rfl, ⟨nd, rfl⟩⟩) | (go_at_call 22; (with_reducible refine (impl_AddBothSlashes.calls t112 t115 _ A11.out).mono ?_); rintro e w' ⟨rfl, ⟨nd, rfl⟩⟩; have p15 : 0 ≤ (0 : Int) := (by omega); have q15 : 0 < t110.size := (by have : (0 : Int) < (t110.size : Int) := of_decide_eq_true (by first | (with_reducible assumption) | assumption); omega); have hx15 : ∀ h : 0 < t110.size, ((t110[0]'h).toNat : Int) = bt t110 0 := bt_at t110 0; clear p15; have qi15 : (0 < (t110.size : Int)) = True := eq_true (of_decide_eq_true (by first | (with_reducible assumption) | assumption)); replace q15 := eq_true q15; have p21 : 0 ≤ ((ji18) : Int) := of_decide_eq_true (by first | (with_reducible assumption) | assumption); have q21 : (ji18) < (t111.size : Int) := of_decide_eq_true (by first | (with_reducible assumption) | assumption); have hx21 := bt_at t111 (ji18); replace p21 := eq_true p21; replace q21 := eq_true q21))
                          go_ret
                          exact ⟨by first | rfl | (simp; done) | (simp only [← hji18] <;> (first | rfl | simp)) | (simp [*]; done), by repeat (first | exact Drawn0.refl _ | apply Drawn0.step)⟩
                      · rw [if_neg c20] at H
                        exact absurd H (by simp)
                    · rw [if_neg c19] at H
                      exact absurd H (by simp)
                · rw [if_neg c16] at H
                  have c16b0 : ((bt t110 0) == 47) = false := beq_eq_false_iff_ne.mpr c16
                  have c16b1 : ((bt t110 0) != 47) = true := bne_iff_ne.mpr c16
                  obtain rfl := Option.some.inj H
                  go_enter Try.func7, Try.ntmps7
                  go_wp2_with (first | ((with_reducible refine gate_callee (f := 20) rfl ?_); refine goesL_ (some 13) rfl rfl Try.func20 (by kernel_rfl) rfl #[.string a0] rfl (by (try simp only [List.map_toArray, List.map_cons, List.map_nil]); first | done | rfl | (simp only [List.length_drop, List.length_take]; rfl)) ?_; (with_reducible refine (impl_AddLeadingSlash.calls a0 t110 _ A4.out).mono ?_); rintro e w' ⟨rfl, ⟨nd, rfl⟩⟩; refine ⟨_, rfl, ?_⟩) | ((with_reducible refine gate_callee (f := 21) rfl ?_); refine goesL_ (some 15) rfl rfl Try.func21 (by kernel_rfl) rfl #[.string a0] rfl (by (try simp only [List.map_toArray, List.map_cons, List.map_nil]); first | done | rfl | (simp only [List.length_drop, List.length_take]; rfl)) ?_; (with_reducible refine (impl_AddTrailingSlash.calls a0 t111 _ A5.out).mono ?_); rintro e w' ⟨rfl, ⟨nd, rfl⟩⟩; refine ⟨_, rfl, ?_⟩) | ((with_reducible refine gate_callee (f := 22) rfl ?_); refine goesL_ (some 17) rfl rfl Try.func22 (by kernel_rfl) rfl #[.string a0] rfl (by (try simp only [List.map_toArray, List.map_cons, List.map_nil]); first | done | rfl | (simp only [List.length_drop, List.length_take]; rfl)) ?_; (with_reducible refine (impl_AddBothSlashes.calls a0 t112 _ A6.out).mono ?_); rintro e w' ⟨rfl, ⟨nd, rfl⟩⟩; refine ⟨_, rfl, ?_⟩) | ((with_reducible refine gate_callee (f := 20) rfl ?_); refine goesL_ (some 19) rfl rfl Try.func20 (by kernel_rfl) rfl #[.string t110] rfl (by (try simp only [List.map_toArray, List.map_cons, List.map_nil]); first | done | rfl | (simp only [List.length_drop, List.length_take]; rfl)) ?_; (with_reducible refine (impl_AddLeadingSlash.calls t110 t113 _ A7.out).mono ?_); rintro e w' ⟨rfl, ⟨nd, rfl⟩⟩; refine ⟨_, rfl, ?_⟩) | (go_at_call 21; (with_reducible refine (impl_AddTrailingSlash.calls t111 t114 _ A9.out).mono ?_); rintro e w' ⟨rfl, ⟨nd, rfl⟩⟩) | (go_at_call 22; (with_reducible refine (impl_AddBothSlashes.calls t112 t115 _ A11.out).mono ?_); rintro e w' ⟨rfl, ⟨nd, rfl⟩⟩; have p15 : 0 ≤ (0 : Int) := (by omega); have q15 : 0 < t110.size := (by have : (0 : Int) < (t110.size : Int) := of_decide_eq_true (by first | (with_reducible assumption) | assumption); omega); have hx15 : ∀ h : 0 < t110.size, ((t110[0]'h).toNat : Int) = bt t110 0 := bt_at t110 0; clear p15; have qi15 : (0 < (t110.size : Int)) = True := eq_true (of_decide_eq_true (by first | (with_reducible assumption) | assumption)); replace q15 := eq_true q15))
                  go_ret
                  exact ⟨by first | rfl | (simp; done) | (simp [*]; done), by repeat (first | exact Drawn0.refl _ | apply Drawn0.step)⟩
              · rw [if_neg c14] at H
                exact absurd H (by simp)
          · rw [if_neg c12] at H
            have c12b0 : (t115.toList == t112.toList) = false := beq_eq_false_iff_ne.mpr c12
            have c12b1 : (t115.toList != t112.toList) = true := bne_iff_ne.mpr c12
            obtain rfl := Option.some.inj H
            go_enter Try.func7, Try.ntmps7
            go_wp2_with (first | ((with_reducible refine gate_callee (f := 20) rfl ?_); refine goesL_ (some 13) rfl rfl Try.func20 (by kernel_rfl) rfl #[.string a0] rfl (by (try simp only [List.map_toArray, List.map_cons, List.map_nil]); first | done | rfl | (simp only [List.length_drop, List.length_take]; rfl)) ?_; (with_reducible refine (impl_AddLeadingSlash.calls a0 t110 _ A4.out).mono ?_); rintro e w' ⟨rfl, ⟨nd, rfl⟩⟩; refine ⟨_, rfl, ?_⟩) | ((with_reducible refine gate_callee (f := 21) rfl ?_); refine goesL_ (some 15) rfl rfl Try.func21 (by kernel_rfl) rfl #[.string a0] rfl (by (try simp only [List.map_toArray, List.map_cons, List.map_nil]); first | done | rfl | (simp only [List.length_drop, List.length_take]; rfl)) ?_; (with_reducible refine (impl_AddTrailingSlash.calls a0 t111 _ A5.out).mono ?_); rintro e w' ⟨rfl, ⟨nd, rfl⟩⟩; refine ⟨_, rfl, ?_⟩) | ((with_reducible refine gate_callee (f := 22) rfl ?_); refine goesL_ (some 17) rfl rfl Try.func22 (by kernel_rfl) rfl #[.string a0] rfl (by (try simp only [List.map_toArray, List.map_cons, List.map_nil]); first | done | rfl | (simp only [List.length_drop, List.length_take]; rfl)) ?_; (with_reducible refine (impl_AddBothSlashes.calls a0 t112 _ A6.out).mono ?_); rintro e w' ⟨rfl, ⟨nd, rfl⟩⟩; refine ⟨_, rfl, ?_⟩) | ((with_reducible refine gate_callee (f := 20) rfl ?_); refine goesL_ (some 19) rfl rfl Try.func20 (by kernel_rfl) rfl #[.string t110] rfl (by (try simp only [List.map_toArray, List.map_cons, List.map_nil]); first | done | rfl | (simp only [List.length_drop, List.length_take]; rfl)) ?_; (with_reducible refine (impl_AddLeadingSlash.calls t110 t113 _ A7.out).mono ?_); rintro e w' ⟨rfl, ⟨nd, rfl⟩⟩; refine ⟨_, rfl, ?_⟩) | (go_at_call 21; (with_reducible refine (impl_AddTrailingSlash.calls t111 t114 _ A9.out).mono ?_); rintro e w' ⟨rfl, ⟨nd, rfl⟩⟩) | (go_at_call 22; (with_reducible refine (impl_AddBothSlashes.calls t112 t115 _ A11.out).mono ?_); rintro e w' ⟨rfl, ⟨nd, rfl⟩⟩))
            go_ret
            exact ⟨by first | rfl | (simp; done) | (simp [*]; done), by repeat (first | exact Drawn0.refl _ | apply Drawn0.step)⟩
        · rw [if_neg c10] at H
          have c10b0 : (t114.toList == t111.toList) = false := beq_eq_false_iff_ne.mpr c10
          have c10b1 : (t114.toList != t111.toList) = true := bne_iff_ne.mpr c10
          obtain rfl := Option.some.inj H
          go_enter Try.func7, Try.ntmps7
          go_wp2_with (first | ((with_reducible refine gate_callee (f := 20) rfl ?_); refine goesL_ (some 13) rfl rfl Try.func20 (by kernel_rfl) rfl #[.string a0] rfl (by (try simp only [List.map_toArray, List.map_cons, List.map_nil]); first | done | rfl | (simp only [List.length_drop, List.length_take]; rfl)) ?_; (with_reducible refine (impl_AddLeadingSlash.calls a0 t110 _ A4.out).mono ?_); rintro e w' ⟨rfl, ⟨nd, rfl⟩⟩; refine ⟨_, rfl, ?_⟩) | ((with_reducible refine gate_callee (f := 21) rfl ?_); refine goesL_ (some 15) rfl rfl Try.func21 (by kernel_rfl) rfl #[.string a0] rfl (by (try simp only [List.map_toArray, List.map_cons, List.map_nil]); first | done | rfl | (simp only [List.length_drop, List.length_take]; rfl)) ?_; (with_reducible refine (impl_AddTrailingSlash.calls a0 t111 _ A5.out).mono ?_); rintro e w' ⟨rfl, ⟨nd, rfl⟩⟩; refine ⟨_, rfl, ?_⟩) | ((with_reducible refine gate_callee (f := 22) rfl ?_); refine goesL_ (some 17) rfl rfl Try.func22 (by kernel_rfl) rfl #[.string a0] rfl (by (try simp only [List.map_toArray, List.map_cons, List.map_nil]); first | done | rfl | (simp only [List.length_drop, List.length_take]; rfl)) ?_; (with_reducible refine (impl_AddBothSlashes.calls a0 t112 _ A6.out).mono ?_); rintro e w' ⟨rfl, ⟨nd, rfl⟩⟩; refine ⟨_, rfl, ?_⟩) | ((with_reducible refine gate_callee (f := 20) rfl ?_); refine goesL_ (some 19) rfl rfl Try.func20 (by kernel_rfl) rfl #[.string t110] rfl (by (try simp only [List.map_toArray, List.map_cons, List.map_nil]); first | done | rfl | (simp only [List.length_drop, List.length_take]; rfl)) ?_; (with_reducible refine (impl_AddLeadingSlash.calls t110 t113 _ A7.out).mono ?_); rintro e w' ⟨rfl, ⟨nd, rfl⟩⟩; refine ⟨_, rfl, ?_⟩) | (go_at_call 21; (with_reducible refine (impl_AddTrailingSlash.calls t111 t114 _ A9.out).mono ?_); rintro e w' ⟨rfl, ⟨nd, rfl⟩⟩))
          go_ret
          exact ⟨by first | rfl | (simp; done) | (simp [*]; done), by repeat (first | exact Drawn0.refl _ | apply Drawn0.step)⟩
      · rw [if_neg c8] at H
        have c8b0 : (t113.toList == t110.toList) = false := beq_eq_false_iff_ne.mpr c8
        have c8b1 : (t113.toList != t110.toList) = true := bne_iff_ne.mpr c8
        obtain rfl := Option.some.inj H
        go_enter Try.func7, Try.ntmps7
        go_wp2_with (first | ((with_reducible refine gate_callee (f := 20) rfl ?_); refine goesL_ (some 13) rfl rfl Try.func20 (by kernel_rfl) rfl #[.string a0] rfl (by (try simp only [List.map_toArray, List.map_cons, List.map_nil]); first | done | rfl | (simp only [List.length_drop, List.length_take]; rfl)) ?_; (with_reducible refine (impl_AddLeadingSlash.calls a0 t110 _ A4.out).mono ?_); rintro e w' ⟨rfl, ⟨nd, rfl⟩⟩; refine ⟨_, rfl, ?_⟩) | ((with_reducible refine gate_callee (f := 21) rfl ?_); refine goesL_ (some 15) rfl rfl Try.func21 (by kernel_rfl) rfl #[.string a0] rfl (by (try simp only [List.map_toArray, List.map_cons, List.map_nil]); first | done | rfl | (simp only [List.length_drop, List.length_take]; rfl)) ?_; (with_reducible refine (impl_AddTrailingSlash.calls a0 t111 _ A5.out).mono ?_); rintro e w' ⟨rfl, ⟨nd, rfl⟩⟩; refine ⟨_, rfl, ?_⟩) | ((with_reducible refine gate_callee (f := 22) rfl ?_); refine goesL_ (some 17) rfl rfl Try.func22 (by kernel_rfl) rfl #[.string a0] rfl (by (try simp only [List.map_toArray, List.map_cons, List.map_nil]); first | done | rfl | (simp only [List.length_drop, List.length_take]; rfl)) ?_; (with_reducible refine (impl_AddBothSlashes.calls a0 t112 _ A6.out).mono ?_); rintro e w' ⟨rfl, ⟨nd, rfl⟩⟩; refine ⟨_, rfl, ?_⟩) | ((with_reducible refine gate_callee (f := 20) rfl ?_); refine goesL_ (some 19) rfl rfl Try.func20 (by kernel_rfl) rfl #[.string t110] rfl (by (try simp only [List.map_toArray, List.map_cons, List.map_nil]); first | done | rfl | (simp only [List.length_drop, List.length_take]; rfl)) ?_; (with_reducible refine (impl_AddLeadingSlash.calls t110 t113 _ A7.out).mono ?_); rintro e w' ⟨rfl, ⟨nd, rfl⟩⟩; refine ⟨_, rfl, ?_⟩))
        go_ret
        exact ⟨by first | rfl | (simp; done) | (simp [*]; done), by repeat (first | exact Drawn0.refl _ | apply Drawn0.step)⟩

/-- THE ONE PURE STATEMENT of laws_FnSlashesTwice: yours. -/
def laws_FnSlashesTwice.Pure : Prop := ∀ (a0 : ByteArray), a0.size ≤ 140737488351232 → laws_FnSlashesTwice.f a0 = some true
theorem laws_FnSlashesTwice.walk (P : laws_FnSlashesTwice.Pure) (a0 : ByteArray) (w : World) (w0 : a0.size ≤ 140737488351232) :
    Calls Try.prog 7 #[.string a0] w fun e w' => e = .returned (.bool true) ∧ Below w.heap.size w w' := by
  have h := P a0 w0
  refine (laws_FnSlashesTwice.calls a0 true w h).mono ?_
  rintro e w' ⟨rfl, hd⟩
  exact ⟨rfl, hd.below⟩

end Go.Proofs.Ytelijbnnhgmklaa.PFnSlashesTwice
