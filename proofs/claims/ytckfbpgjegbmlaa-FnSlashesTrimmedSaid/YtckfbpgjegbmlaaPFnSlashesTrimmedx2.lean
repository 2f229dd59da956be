/- Printed by a program of this session (a printer turned to take contracts that were proved by hand): functions with the answers of the Go functions, and proofs that the code comes to these answers; no condition beyond what each theorem names. -/
import Derived.Test.YtckfbpgjegbmlaaPFnSlashesTrimmedx0
import Derived.Test.YtckfbpgjegbmlaaPFnSlashesTrimmedx1
namespace Go.Proofs.Ytckfbpgjegbmlaa.PFnSlashesTrimmed
open Go.RowKit Go.Proofs.YtckfbpgjegbmlaaW.PrintWords Go.Proofs.YtckfbpgjegbmlaaW.PrintLast Go.Proofs.YtckfbpgjegbmlaaW.PrintMore
attribute [local go_sem] max2_int min2_int max_two min_two max_three min_three max_four min_four   -- for this text's walks alone
set_option linter.unusedVariables false
set_option linter.unusedSimpArgs false

/-! ### impl_ToSlashTrimLeading: function 21 -/
def impl_ToSlashTrimLeading.f (a0 : ByteArray) : Option (ByteArray) := (paths_ToSlashTrimLeading.f a0).bind fun t126 => (some t126)
set_option maxHeartbeats 8000000 in
set_option maxRecDepth 100000 in
theorem impl_ToSlashTrimLeading.calls (a0 : ByteArray) (r : ByteArray) (w : World) (h : impl_ToSlashTrimLeading.f a0 = some r) :
    Calls Try.prog 21 #[.string a0] w fun e w' => e = .returned (.string r) ∧ Drawn0 w w' := by
  have H : ((paths_ToSlashTrimLeading.f a0).bind fun t126 => (some t126)) = some r := h
  clear h
  replace H := Option.bind_eq_some_iff.mp H
  obtain ⟨t126, A20, H⟩ := H
  replace H : (some t126) = some r := H
  have A2 := Aside0.mk A20
  clear A20
  obtain rfl := Option.some.inj H
  go_enter Try.func21, Try.ntmps21
  go_wp2_with (first | ((with_reducible refine gate_callee (f := 41) rfl ?_); refine goesL_ (some 4) rfl rfl Try.func41 (by kernel_rfl) rfl #[.string a0] rfl (by (try simp only [List.map_toArray, List.map_cons, List.map_nil]); first | done | rfl | (simp only [List.length_drop, List.length_take]; rfl)) ?_; (with_reducible refine (paths_ToSlashTrimLeading.calls a0 t126 _ A2.out).mono ?_); rintro e w' ⟨rfl, ⟨nd, rfl⟩⟩; refine ⟨_, rfl, ?_⟩))
  go_ret
  exact ⟨by first | rfl | (simp; done) | (simp [*]; done), by repeat (first | exact Drawn0.refl _ | apply Drawn0.step)⟩

/-! ### paths_ToSlashTrimTrailing: function 42 -/
def paths_ToSlashTrimTrailing.f (a0 : ByteArray) : Option (ByteArray) := (filepath_ToSlash.f a0).bind fun t127 => ((paths_TrimTrailing.f t127).bind fun t128 => (some t128))
set_option maxHeartbeats 8000000 in
set_option maxRecDepth 100000 in
theorem paths_ToSlashTrimTrailing.calls (a0 : ByteArray) (r : ByteArray) (w : World) (h : paths_ToSlashTrimTrailing.f a0 = some r) :
    Calls Try.prog 42 #[.string a0] w fun e w' => e = .returned (.string r) ∧ Drawn0 w w' := by
  have H : ((filepath_ToSlash.f a0).bind fun t127 => ((paths_TrimTrailing.f t127).bind fun t128 => (some t128))) = some r := h
  clear h
  replace H := Option.bind_eq_some_iff.mp H
  obtain ⟨t127, A20, H⟩ := H
  replace H : ((paths_TrimTrailing.f t127).bind fun t128 => (some t128)) = some r := H
  have A2 := Aside0.mk A20
  clear A20
  replace H := Option.bind_eq_some_iff.mp H
  obtain ⟨t128, A30, H⟩ := H
  replace H : (some t128) = some r := H
  have A3 := Aside0.mk A30
  clear A30
  obtain rfl := Option.some.inj H
  go_enter Try.func42, Try.ntmps42
  go_wp2_with (first | ((with_reducible refine gate_callee (f := 52) rfl ?_); refine goesL_ (some 4) rfl rfl Try.func52 (by kernel_rfl) rfl #[.string a0] rfl (by (try simp only [List.map_toArray, List.map_cons, List.map_nil]); first | done | rfl | (simp only [List.length_drop, List.length_take]; rfl)) ?_; (with_reducible refine (filepath_ToSlash.calls a0 t127 _ A2.out).mono ?_); rintro e w' ⟨rfl, ⟨nd, rfl⟩⟩; refine ⟨_, rfl, ?_⟩) | ((with_reducible refine gate_callee (f := 39) rfl ?_); refine goesL_ (some 5) rfl rfl Try.func39 (by kernel_rfl) rfl #[.string t127] rfl (by (try simp only [List.map_toArray, List.map_cons, List.map_nil]); first | done | rfl | (simp only [List.length_drop, List.length_take]; rfl)) ?_; (with_reducible refine (paths_TrimTrailing.calls t127 t128 _ A3.out).mono ?_); rintro e w' ⟨rfl, ⟨nd, rfl⟩⟩; refine ⟨_, rfl, ?_⟩))
  go_ret
  exact ⟨by first | rfl | (simp; done) | (simp [*]; done), by repeat (first | exact Drawn0.refl _ | apply Drawn0.step)⟩

/-! ### impl_ToSlashTrimTrailing: function 23 -/
def impl_ToSlashTrimTrailing.f (a0 : ByteArray) : Option (ByteArray) := (paths_ToSlashTrimTrailing.f a0).bind fun t129 => (some t129)
set_option maxHeartbeats 8000000 in
set_option maxRecDepth 100000 in
theorem impl_ToSlashTrimTrailing.calls (a0 : ByteArray) (r : ByteArray) (w : World) (h : impl_ToSlashTrimTrailing.f a0 = some r) :
    Calls Try.prog 23 #[.string a0] w fun e w' => e = .returned (.string r) ∧ Drawn0 w w' := by
  have H : ((paths_ToSlashTrimTrailing.f a0).bind fun t129 => (some t129)) = some r := h
  clear h
  replace H := Option.bind_eq_some_iff.mp H
  obtain ⟨t129, A20, H⟩ := H
  replace H : (some t129) = some r := H
  have A2 := Aside0.mk A20
  clear A20
  obtain rfl := Option.some.inj H
  go_enter Try.func23, Try.ntmps23
  go_wp2_with (first | ((with_reducible refine gate_callee (f := 42) rfl ?_); refine goesL_ (some 4) rfl rfl Try.func42 (by kernel_rfl) rfl #[.string a0] rfl (by (try simp only [List.map_toArray, List.map_cons, List.map_nil]); first | done | rfl | (simp only [List.length_drop, List.length_take]; rfl)) ?_; (with_reducible refine (paths_ToSlashTrimTrailing.calls a0 t129 _ A2.out).mono ?_); rintro e w' ⟨rfl, ⟨nd, rfl⟩⟩; refine ⟨_, rfl, ?_⟩))
  go_ret
  exact ⟨by first | rfl | (simp; done) | (simp [*]; done), by repeat (first | exact Drawn0.refl _ | apply Drawn0.step)⟩

/-! ### paths_ToSlashPreserveLeading: function 43 -/
def paths_ToSlashPreserveLeading.f (k : Nat) (a0 : ByteArray) : Option (ByteArray) := (filepath_ToSlash.f a0).bind fun t130 => ((paths_zzTrim.f k t130 (⟨#[47]⟩ : ByteArray)).bind fun t131 => (if 1 + t131.size ≤ 9223372036854775807 then (some ((⟨#[47]⟩ : ByteArray) ++ t131)) else (none)))
theorem paths_ToSlashPreserveLeading.mono : ∀ a0 k, LeO (paths_ToSlashPreserveLeading.f k a0) (paths_ToSlashPreserveLeading.f (k + 1) a0) := by
  intro a0 k
  unfold paths_ToSlashPreserveLeading.f
  repeat' first
      | (with_reducible exact paths_zzTrim.mono _ _ _)
      | (with_reducible exact LeO.refl _)
      | (with_reducible exact LeO.none _)
      | (with_reducible refine LeO.ite ?_ ?_)
      | (with_reducible refine LeO.bind ?_ (fun _ => ?_))
      | exact paths_zzTrim.mono _ _ _
      | exact LeO.none _
      | refine LeO.ite ?_ ?_
      | refine LeO.bind ?_ (fun _ => ?_)
set_option maxHeartbeats 8000000 in
set_option maxRecDepth 100000 in
theorem paths_ToSlashPreserveLeading.calls (k : Nat) (a0 : ByteArray) (r : ByteArray) (w : World) (h : paths_ToSlashPreserveLeading.f k a0 = some r) :
    Calls Try.prog 43 #[.string a0] w fun e w' => e = .returned (.string r) ∧ Below w.heap.size w w' := by
  have HB := Aside0.mk (Below.refl w.heap.size w)
  have H : ((filepath_ToSlash.f a0).bind fun t130 => ((paths_zzTrim.f k t130 (⟨#[47]⟩ : ByteArray)).bind fun t131 => (if 1 + t131.size ≤ 9223372036854775807 then (some ((⟨#[47]⟩ : ByteArray) ++ t131)) else (none)))) = some r := h
  clear h
  replace H := Option.bind_eq_some_iff.mp H
  obtain ⟨t130, A20, H⟩ := H
  replace H : ((paths_zzTrim.f k t130 (⟨#[47]⟩ : ByteArray)).bind fun t131 => (if 1 + t131.size ≤ 9223372036854775807 then (some ((⟨#[47]⟩ : ByteArray) ++ t131)) else (none))) = some r := H
  have A2 := Aside0.mk A20
  clear A20
  replace H := Option.bind_eq_some_iff.mp H
  obtain ⟨t131, A30, H⟩ := H
  replace H : (if 1 + t131.size ≤ 9223372036854775807 then (some ((⟨#[47]⟩ : ByteArray) ++ t131)) else (none)) = some r := H
  have A3 := Aside0.mk A30
  clear A30
  by_cases c4 : 1 + t131.size ≤ 9223372036854775807
  · rw [if_pos c4] at H
    have c4b0 := eq_true c4
    have c4b1 : decide (1 + t131.size ≤ 9223372036854775807) = true := decide_eq_true c4
    try have c4b2 : (9223372036854775807 < 1 + t131.size) = False := eq_false (Nat.not_lt.2 c4)
    obtain rfl := Option.some.inj H
    go_enter Try.func43, Try.ntmps43
    go_wp2_with (first | ((with_reducible refine gate_callee (f := 52) rfl ?_); refine goesL_ (some 4) rfl rfl Try.func52 (by kernel_rfl) rfl #[.string a0] rfl (by (try simp only [List.map_toArray, List.map_cons, List.map_nil]); first | done | rfl | (simp only [List.length_drop, List.length_take]; rfl)) ?_; (with_reducible refine (filepath_ToSlash.calls a0 t130 _ A2.out).mono ?_); rintro e w' ⟨rfl, ⟨nd, rfl⟩⟩; refine ⟨_, rfl, ?_⟩) | ((with_reducible refine gate_callee (f := 51) rfl ?_); refine goesL_ (some 5) rfl rfl Try.func51 (by kernel_rfl) rfl #[.string t130, .string (⟨#[47]⟩ : ByteArray)] rfl (by (try simp only [List.map_toArray, List.map_cons, List.map_nil]); first | done | rfl | (simp only [List.length_drop, List.length_take]; rfl)) ?_; (with_reducible refine (paths_zzTrim.calls k t130 (⟨#[47]⟩ : ByteArray) t131 _ A3.out).mono ?_); rintro e w5 ⟨rfl, hb⟩; refine ⟨_, rfl, ?_⟩; have n0_ := Aside0.mk (below_step (by repeat (first | (with_reducible first | exact HB.out | apply below_alloc | apply pw_below_drewN | apply below_drew1) | exact HB.out)) hb); clear HB; have HB := n0_; clear n0_; (try clear hb); (try clear hb2); (try clear hk); (try clear hi)))
    go_ret
    exact ⟨by first | rfl | (simp [errW_none, errW_some] <;> rfl) | (simp [*, errW_none, errW_some] <;> rfl), by repeat (first | (with_reducible first | exact HB.out | apply below_alloc | apply pw_below_drewN | apply below_drew1) | exact HB.out)⟩
  · rw [if_neg c4] at H
    exact absurd H (by simp)

/-! ### impl_ToSlashPreserveLeading: function 25 -/
def impl_ToSlashPreserveLeading.f (k : Nat) (a0 : ByteArray) : Option (ByteArray) := (paths_ToSlashPreserveLeading.f k a0).bind fun t132 => (some t132)
theorem impl_ToSlashPreserveLeading.mono : ∀ a0 k, LeO (impl_ToSlashPreserveLeading.f k a0) (impl_ToSlashPreserveLeading.f (k + 1) a0) := by
  intro a0 k
  unfold impl_ToSlashPreserveLeading.f
  repeat' first
      | (with_reducible exact paths_ToSlashPreserveLeading.mono _ _)
      | (with_reducible exact LeO.refl _)
      | (with_reducible exact LeO.none _)
      | (with_reducible refine LeO.ite ?_ ?_)
      | (with_reducible refine LeO.bind ?_ (fun _ => ?_))
      | exact paths_ToSlashPreserveLeading.mono _ _
      | exact LeO.none _
      | refine LeO.ite ?_ ?_
      | refine LeO.bind ?_ (fun _ => ?_)
set_option maxHeartbeats 8000000 in
set_option maxRecDepth 100000 in
theorem impl_ToSlashPreserveLeading.calls (k : Nat) (a0 : ByteArray) (r : ByteArray) (w : World) (h : impl_ToSlashPreserveLeading.f k a0 = some r) :
    Calls Try.prog 25 #[.string a0] w fun e w' => e = .returned (.string r) ∧ Below w.heap.size w w' := by
  have HB := Aside0.mk (Below.refl w.heap.size w)
  have H : ((paths_ToSlashPreserveLeading.f k a0).bind fun t132 => (some t132)) = some r := h
  clear h
  replace H := Option.bind_eq_some_iff.mp H
  obtain ⟨t132, A20, H⟩ := H
  replace H : (some t132) = some r := H
  have A2 := Aside0.mk A20
  clear A20
  obtain rfl := Option.some.inj H
  go_enter Try.func25, Try.ntmps25
  go_wp2_with (first | ((with_reducible refine gate_callee (f := 43) rfl ?_); refine goesL_ (some 4) rfl rfl Try.func43 (by kernel_rfl) rfl #[.string a0] rfl (by (try simp only [List.map_toArray, List.map_cons, List.map_nil]); first | done | rfl | (simp only [List.length_drop, List.length_take]; rfl)) ?_; (with_reducible refine (paths_ToSlashPreserveLeading.calls k a0 t132 _ A2.out).mono ?_); rintro e w3 ⟨rfl, hb⟩; refine ⟨_, rfl, ?_⟩; have n0_ := Aside0.mk (below_step (by repeat (first | (with_reducible first | exact HB.out | apply below_alloc | apply pw_below_drewN | apply below_drew1) | exact HB.out)) hb); clear HB; have HB := n0_; clear n0_; (try clear hb); (try clear hb2); (try clear hk); (try clear hi)))
  go_ret
  exact ⟨by first | rfl | (simp [errW_none, errW_some] <;> rfl) | (simp [*, errW_none, errW_some] <;> rfl), by repeat (first | (with_reducible first | exact HB.out | apply below_alloc | apply pw_below_drewN | apply below_drew1) | exact HB.out)⟩

/-! ### laws_FnSlashesTrimmed: function 4 -/
def laws_FnSlashesTrimmed.j0 : Nat → ByteArray → Bool → Option (Bool)
  | 0, _, _ => none
  | k + 1, x0, x25 => if x25 = true then (some true) else ((impl_AddLeadingSlash.f x0).bind fun t133 => ((impl_TrimLeading.f t133).bind fun t134 => (if t134.toList = x0.toList then ((impl_AddTrailingSlash.f x0).bind fun t135 => ((impl_TrimTrailing.f t135).bind fun t136 => (if t136.toList = x0.toList then ((impl_AddBothSlashes.f x0).bind fun t137 => ((impl_ToSlashTrim.f k t137).bind fun t138 => (if t138.toList = x0.toList then ((impl_ToSlashPreserveLeading.f k t137).bind fun t139 => (if 1 + x0.size ≤ 9223372036854775807 then (if t139.toList = ((⟨#[47]⟩ : ByteArray) ++ x0).toList then ((impl_ToSlashTrimLeading.f ((⟨#[47]⟩ : ByteArray) ++ x0)).bind fun t140 => (if t140.toList = x0.toList then (if x0.size + 1 ≤ 9223372036854775807 then ((impl_ToSlashTrimTrailing.f (x0 ++ (⟨#[47]⟩ : ByteArray))).bind fun t141 => (some (t141.toList == x0.toList))) else (none)) else (some false))) else (some false)) else (none))) else (some false)))) else (some false)))) else (some false))))
def laws_FnSlashesTrimmed.f (k : Nat) (a0 : ByteArray) : Option (Bool) := if (a0.size : Int) > 2147483647 then (some true) else (if (a0.size : Int) > 65536 then (laws_FnSlashesTrimmed.j0 k a0 true) else (if a0.toList = ([] : List UInt8) then (laws_FnSlashesTrimmed.j0 k a0 true) else (if 0 < (a0.size : Int) then (if (bt a0 0) = 47 then (laws_FnSlashesTrimmed.j0 k a0 true) else (if 0 ≤ (wrap64 ((a0.size : Int) - 1)) then (if (wrap64 ((a0.size : Int) - 1)) < (a0.size : Int) then (laws_FnSlashesTrimmed.j0 k a0 ((bt a0 (wrap64 ((a0.size : Int) - 1))) == 47)) else (none)) else (none))) else (none))))
theorem laws_FnSlashesTrimmed.mono_l : ∀ k, (∀ y0 y1, LeO (laws_FnSlashesTrimmed.j0 k y0 y1) (laws_FnSlashesTrimmed.j0 (k + 1) y0 y1))
  | 0 => fun _ _ r h => by simp [laws_FnSlashesTrimmed.j0] at h
  | k + 1 => by
    have ih0 := laws_FnSlashesTrimmed.mono_l k
    · intro y0 y1
      unfold laws_FnSlashesTrimmed.j0
      repeat' first
      | (with_reducible exact ih0 _ _)
      | (with_reducible exact impl_ToSlashPreserveLeading.mono _ _)
      | (with_reducible exact impl_ToSlashTrim.mono _ _)
      | (with_reducible exact LeO.refl _)
      | (with_reducible exact LeO.none _)
      | (with_reducible refine LeO.ite ?_ ?_)
      | (with_reducible refine LeO.bind ?_ (fun _ => ?_))
      | exact ih0 _ _
      | exact impl_ToSlashPreserveLeading.mono _ _
      | exact impl_ToSlashTrim.mono _ _
      | exact LeO.none _
      | refine LeO.ite ?_ ?_
      | refine LeO.bind ?_ (fun _ => ?_)
theorem laws_FnSlashesTrimmed.mono : ∀ a0 k, LeO (laws_FnSlashesTrimmed.f k a0) (laws_FnSlashesTrimmed.f (k + 1) a0) := by
  intro a0 k
  have ih0 := laws_FnSlashesTrimmed.mono_l k
  unfold laws_FnSlashesTrimmed.f
  repeat' first
      | (with_reducible exact ih0 _ _)
      | (with_reducible exact impl_ToSlashPreserveLeading.mono _ _)
      | (with_reducible exact impl_ToSlashTrim.mono _ _)
      | (with_reducible exact LeO.refl _)
      | (with_reducible exact LeO.none _)
      | (with_reducible refine LeO.ite ?_ ?_)
      | (with_reducible refine LeO.bind ?_ (fun _ => ?_))
      | exact ih0 _ _
      | exact impl_ToSlashPreserveLeading.mono _ _
      | exact impl_ToSlashTrim.mono _ _
      | exact LeO.none _
      | refine LeO.ite ?_ ?_
      | refine LeO.bind ?_ (fun _ => ?_)
set_option maxHeartbeats 8000000 in
set_option maxRecDepth 100000 in
theorem laws_FnSlashesTrimmed.calls (k : Nat) (a0 : ByteArray) (r : Bool) (w : World) (h : laws_FnSlashesTrimmed.f k a0 = some r) :
    Calls Try.prog 4 #[.string a0] w fun e w' => e = .returned (.bool r) ∧ Below w.heap.size w w' := by
  have HB := Aside0.mk (Below.refl w.heap.size w)
  have H : (if (a0.size : Int) > 2147483647 then (some true) else (if (a0.size : Int) > 65536 then (laws_FnSlashesTrimmed.j0 k a0 true) else (if a0.toList = ([] : List UInt8) then (laws_FnSlashesTrimmed.j0 k a0 true) else (if 0 < (a0.size : Int) then (if (bt a0 0) = 47 then (laws_FnSlashesTrimmed.j0 k a0 true) else (if 0 ≤ (wrap64 ((a0.size : Int) - 1)) then (if (wrap64 ((a0.size : Int) - 1)) < (a0.size : Int) then (laws_FnSlashesTrimmed.j0 k a0 ((bt a0 (wrap64 ((a0.size : Int) - 1))) == 47)) else (none)) else (none))) else (none))))) = some r := h
  clear h
  by_cases c2 : (a0.size : Int) > 2147483647
  · rw [if_pos c2] at H
    have c2b0 : decide (2147483647 < (a0.size : Int)) = true := decide_eq_true c2
    have c2b1 : decide (2147483647 < a0.size) = true := decide_eq_true (by omega)
    clear c2
    obtain rfl := Option.some.inj H
    go_enter Try.func4, Try.ntmps4
    go_wp2
    go_ret
    exact ⟨by first | rfl | (simp [errW_none, errW_some] <;> rfl) | (simp [*, errW_none, errW_some] <;> rfl), by repeat (first | (with_reducible first | exact HB.out | apply below_alloc | apply pw_below_drewN | apply below_drew1) | exact HB.out)⟩
  · rw [if_neg c2] at H
    have c2b0 : decide (2147483647 < (a0.size : Int)) = false := decide_eq_false c2
    have c2b1 : decide (2147483647 < a0.size) = false := decide_eq_false (by omega)
    clear c2
    have HC3 := Aside0.mk H
    clear H
    go_enter Try.func4, Try.ntmps4
    go_upto_region 3 with (fail)
    go_cut [25] (fun v25 wc => ∃ (kq : Nat) (x25_2 : Bool), v25 = .bool x25_2 ∧ Aside0 (laws_FnSlashesTrimmed.j0 kq a0 x25_2 = some r) ∧ Aside0 (kq ≤ k) ∧ Aside0 (Below w.heap.size w wc))
    case first =>
      have H := HC3.out
      clear HC3
      by_cases c4 : (a0.size : Int) > 65536
      · rw [if_pos c4] at H
        have c4b0 : decide (65536 < (a0.size : Int)) = true := decide_eq_true c4
        have c4b1 : decide (65536 < a0.size) = true := decide_eq_true (by omega)
        clear c4
        (first | rw [c4b0] | (simp only [i64_w, i32_w]; rw [c4b0]) | skip)
        have H' := Aside0.mk H
        clear H
        go_wp2
        go_meet
        case rel => exact ⟨_, (true), (by first | rfl | (simp; done) | (simp [*]; done)), H', ⟨by first | omega | exact Nat.le_refl _⟩, ⟨by repeat (first | (with_reducible first | exact HB.out | apply below_alloc | apply pw_below_drewN | apply below_drew1) | exact HB.out)⟩⟩
      · rw [if_neg c4] at H
        have c4b0 : decide (65536 < (a0.size : Int)) = false := decide_eq_false c4
        have c4b1 : decide (65536 < a0.size) = false := decide_eq_false (by omega)
        clear c4
        (first | rw [c4b0] | (simp only [i64_w, i32_w]; rw [c4b0]) | skip)
        by_cases c5 : a0.toList = ([] : List UInt8)
        · rw [if_pos c5] at H
          have c5b0 : (a0.toList == ([] : List UInt8)) = true := beq_iff_eq.mpr c5
          have c5b1 : (a0.toList != ([] : List UInt8)) = false := bne_eq_false_iff_eq.mpr c5
          clear c5
          have H' := Aside0.mk H
          clear H
          go_wp2
          go_meet
          case rel => exact ⟨_, (true), (by first | rfl | (simp; done) | (simp [*]; done)), H', ⟨by first | omega | exact Nat.le_refl _⟩, ⟨by repeat (first | (with_reducible first | exact HB.out | apply below_alloc | apply pw_below_drewN | apply below_drew1) | exact HB.out)⟩⟩
        · rw [if_neg c5] at H
          have c5b0 : (a0.toList == ([] : List UInt8)) = false := beq_eq_false_iff_ne.mpr c5
          have c5b1 : (a0.toList != ([] : List UInt8)) = true := bne_iff_ne.mpr c5
          by_cases c6 : 0 < (a0.size : Int)
          · rw [if_pos c6] at H
            have c6b0 : decide (0 < (a0.size : Int)) = true := decide_eq_true c6
            have c6b1 : decide (0 < a0.size) = true := decide_eq_true (by omega)
            clear c6
            by_cases c8 : (bt a0 0) = 47
            · rw [if_pos c8] at H
              have c8b0 : ((bt a0 0) == 47) = true := beq_iff_eq.mpr c8
              have c8b1 : ((bt a0 0) != 47) = false := bne_eq_false_iff_eq.mpr c8
              clear c8
              have H' := Aside0.mk H
              clear H
              have p7 : 0 ≤ (0 : Int) := (by omega)
              have q7 : 0 < a0.size := (by have : (0 : Int) < (a0.size : Int) := of_decide_eq_true (by first | (with_reducible assumption) | assumption); omega)
              have hx7 : ∀ h : 0 < a0.size, ((a0[0]'h).toNat : Int) = bt a0 0 := bt_at a0 0
              clear p7
              have qi7 : (0 < (a0.size : Int)) = True := eq_true (of_decide_eq_true (by first | (with_reducible assumption) | assumption))
              replace q7 := eq_true q7
              go_wp2
              go_meet
              case rel => exact ⟨_, (true), (by first | rfl | (simp; done) | (simp [*]; done)), H', ⟨by first | omega | exact Nat.le_refl _⟩, ⟨by repeat (first | (with_reducible first | exact HB.out | apply below_alloc | apply pw_below_drewN | apply below_drew1) | exact HB.out)⟩⟩
            · rw [if_neg c8] at H
              have c8b0 : ((bt a0 0) == 47) = false := beq_eq_false_iff_ne.mpr c8
              have c8b1 : ((bt a0 0) != 47) = true := bne_iff_ne.mpr c8
              obtain ⟨ji9, hji9⟩ : ∃ j_ : Int, (wrap64 ((a0.size : Int) - 1)) = j_ := ⟨_, rfl⟩
              replace H : (if 0 ≤ (ji9) then (if (ji9) < (a0.size : Int) then (laws_FnSlashesTrimmed.j0 k a0 ((bt a0 (ji9)) == 47)) else (none)) else (none)) = some r := by first | (rw [hji9] at H; exact H) | (simp only [hji9] at H ⊢; exact H)
              have hji9w : (IntKind.i64.wrap ((a0.size : Int) - 1)) = ji9 := (i64_w _).trans hji9
              by_cases c10 : 0 ≤ (ji9)
              · rw [if_pos c10] at H
                have c10b0 : decide (0 ≤ (ji9)) = true := decide_eq_true c10
                clear c10
                by_cases c11 : (ji9) < (a0.size : Int)
                · rw [if_pos c11] at H
                  have c11b0 : decide ((ji9) < (a0.size : Int)) = true := decide_eq_true c11
                  clear c11
                  have H' := Aside0.mk H
                  clear H
                  have p7 : 0 ≤ (0 : Int) := (by omega)
                  have q7 : 0 < a0.size := (by have : (0 : Int) < (a0.size : Int) := of_decide_eq_true (by first | (with_reducible assumption) | assumption); omega)
                  have hx7 : ∀ h : 0 < a0.size, ((a0[0]'h).toNat : Int) = bt a0 0 := bt_at a0 0
                  clear p7
                  have qi7 : (0 < (a0.size : Int)) = True := eq_true (of_decide_eq_true (by first | (with_reducible assumption) | assumption))
                  replace q7 := eq_true q7
                  have p12 : 0 ≤ ((ji9) : Int) := of_decide_eq_true (by first | (with_reducible assumption) | assumption)
                  have q12 : (ji9) < (a0.size : Int) := of_decide_eq_true (by first | (with_reducible assumption) | assumption)
                  have hx12 := bt_at a0 (ji9)
                  replace p12 := eq_true p12
                  replace q12 := eq_true q12
                  go_wp2
                  go_meet
                  case rel => exact ⟨_, (((bt a0 (ji9)) == 47)), (by first | rfl | (simp; done) | (simp only [← hji9] <;> (first | rfl | simp)) | (simp [*]; done)), H', ⟨by first | omega | exact Nat.le_refl _⟩, ⟨by repeat (first | (with_reducible first | exact HB.out | apply below_alloc | apply pw_below_drewN | apply below_drew1) | exact HB.out)⟩⟩
                · rw [if_neg c11] at H
                  exact absurd H (by simp)
              · rw [if_neg c10] at H
                exact absurd H (by simp)
          · rw [if_neg c6] at H
            exact absurd H (by simp)
    case rest =>
      clear HC3
      try clear c1
      try clear p1
      try clear q1
      try clear hx1
      try clear c2
      try clear c2b0
      try clear c2b1
      try clear p2
      try clear c4
      try clear c4b0
      try clear c4b1
      try clear c5
      try clear c5b0
      try clear c5b1
      try clear c6
      try clear c6b0
      try clear c6b1
      try clear p6
      try clear p7
      try clear q7
      try clear hx7
      try clear qi7
      try clear c8
      try clear c8b0
      try clear c8b1
      try clear c10
      try clear c10b0
      try clear c11
      try clear c11b0
      try clear p12
      try clear q12
      try clear hx12
      try clear p12
      try clear p7
      try clear q12
      try clear q7
      obtain ⟨kq, x25_2, rfl, HA, HJ2, HB⟩ := hcut
      cases kq with
      | zero => exact absurd HA.out (by simp [laws_FnSlashesTrimmed.j0])
      | succ kj2 =>
        have H := HA.out
        clear HA
        simp only [laws_FnSlashesTrimmed.j0] at H
        by_cases c13 : x25_2 = true
        · subst c13
          have H1 : (some true) = some r := by rw [if_pos rfl] at H; exact H
          clear H
          have H := H1
          clear H1
          obtain rfl := Option.some.inj H
          go_wp2
          go_ret
          exact ⟨by first | rfl | (simp [errW_none, errW_some] <;> rfl) | (simp [*, errW_none, errW_some] <;> rfl), by repeat (first | (with_reducible first | exact HB.out | apply below_alloc | apply pw_below_drewN | apply below_drew1) | exact HB.out)⟩
        · replace c13 := Bool.eq_false_iff.mpr c13
          subst c13
          have H1 : ((impl_AddLeadingSlash.f a0).bind fun t133 => ((impl_TrimLeading.f t133).bind fun t134 => (if t134.toList = a0.toList then ((impl_AddTrailingSlash.f a0).bind fun t135 => ((impl_TrimTrailing.f t135).bind fun t136 => (if t136.toList = a0.toList then ((impl_AddBothSlashes.f a0).bind fun t137 => ((impl_ToSlashTrim.f kj2 t137).bind fun t138 => (if t138.toList = a0.toList then ((impl_ToSlashPreserveLeading.f kj2 t137).bind fun t139 => (if 1 + a0.size ≤ 9223372036854775807 then (if t139.toList = ((⟨#[47]⟩ : ByteArray) ++ a0).toList then ((impl_ToSlashTrimLeading.f ((⟨#[47]⟩ : ByteArray) ++ a0)).bind fun t140 => (if t140.toList = a0.toList then (if a0.size + 1 ≤ 9223372036854775807 then ((impl_ToSlashTrimTrailing.f (a0 ++ (⟨#[47]⟩ : ByteArray))).bind fun t141 => (some (t141.toList == a0.toList))) else (none)) else (some false))) else (some false)) else (none))) else (some false)))) else (some false)))) else (some false)))) = some r := by rw [if_neg (show ¬ (false = true) by decide)] at H; exact H
          clear H
          have H := H1
          clear H1
          replace H := Option.bind_eq_some_iff.mp H
          obtain ⟨t133, A140, H⟩ := H
          replace H : ((impl_TrimLeading.f t133).bind fun t134 => (if t134.toList = a0.toList then ((impl_AddTrailingSlash.f a0).bind fun t135 => ((impl_TrimTrailing.f t135).bind fun t136 => (if t136.toList = a0.toList then ((impl_AddBothSlashes.f a0).bind fun t137 => ((impl_ToSlashTrim.f kj2 t137).bind fun t138 => (if t138.toList = a0.toList then ((impl_ToSlashPreserveLeading.f kj2 t137).bind fun t139 => (if 1 + a0.size ≤ 9223372036854775807 then (if t139.toList = ((⟨#[47]⟩ : ByteArray) ++ a0).toList then ((impl_ToSlashTrimLeading.f ((⟨#[47]⟩ : ByteArray) ++ a0)).bind fun t140 => (if t140.toList = a0.toList then (if a0.size + 1 ≤ 9223372036854775807 then ((impl_ToSlashTrimTrailing.f (a0 ++ (⟨#[47]⟩ : ByteArray))).bind fun t141 => (some (t141.toList == a0.toList))) else (none)) else (some false))) else (some false)) else (none))) else (some false)))) else (some false)))) else (some false))) = some r := H
          have A14 := Aside0.mk A140
          clear A140
          replace H := Option.bind_eq_some_iff.mp H
          obtain ⟨t134, A150, H⟩ := H
          replace H : (if t134.toList = a0.toList then ((impl_AddTrailingSlash.f a0).bind fun t135 => ((impl_TrimTrailing.f t135).bind fun t136 => (if t136.toList = a0.toList then ((impl_AddBothSlashes.f a0).bind fun t137 => ((impl_ToSlashTrim.f kj2 t137).bind fun t138 => (if t138.toList = a0.toList then ((impl_ToSlashPreserveLeading.f kj2 t137).bind fun t139 => (if 1 + a0.size ≤ 9223372036854775807 then (if t139.toList = ((⟨#[47]⟩ : ByteArray) ++ a0).toList then ((impl_ToSlashTrimLeading.f ((⟨#[47]⟩ : ByteArray) ++ a0)).bind fun t140 => (if t140.toList = a0.toList then (if a0.size + 1 ≤ 9223372036854775807 then ((impl_ToSlashTrimTrailing.f (a0 ++ (⟨#[47]⟩ : ByteArray))).bind fun t141 => (some (t141.toList == a0.toList))) else (none)) else (some false))) else (some false)) else (none))) else (some false)))) else (some false)))) else (some false)) = some r := H
          have A15 := Aside0.mk A150
          clear A150
          by_cases c16 : t134.toList = a0.toList
          · rw [if_pos c16] at H
            have c16b0 : (t134.toList == a0.toList) = true := beq_iff_eq.mpr c16
            have c16b1 : (t134.toList != a0.toList) = false := bne_eq_false_iff_eq.mpr c16
            clear c16
            replace H := Option.bind_eq_some_iff.mp H
            obtain ⟨t135, A170, H⟩ := H
            replace H : ((impl_TrimTrailing.f t135).bind fun t136 => (if t136.toList = a0.toList then ((impl_AddBothSlashes.f a0).bind fun t137 => ((impl_ToSlashTrim.f kj2 t137).bind fun t138 => (if t138.toList = a0.toList then ((impl_ToSlashPreserveLeading.f kj2 t137).bind fun t139 => (if 1 + a0.size ≤ 9223372036854775807 then (if t139.toList = ((⟨#[47]⟩ : ByteArray) ++ a0).toList then ((impl_ToSlashTrimLeading.f ((⟨#[47]⟩ : ByteArray) ++ a0)).bind fun t140 => (if t140.toList = a0.toList then (if a0.size + 1 ≤ 9223372036854775807 then ((impl_ToSlashTrimTrailing.f (a0 ++ (⟨#[47]⟩ : ByteArray))).bind fun t141 => (some (t141.toList == a0.toList))) else (none)) else (some false))) else (some false)) else (none))) else (some false)))) else (some false))) = some r := H
            have A17 := Aside0.mk A170
            clear A170
            replace H := Option.bind_eq_some_iff.mp H
            obtain ⟨t136, A180, H⟩ := H
            replace H : (if t136.toList = a0.toList then ((impl_AddBothSlashes.f a0).bind fun t137 => ((impl_ToSlashTrim.f kj2 t137).bind fun t138 => (if t138.toList = a0.toList then ((impl_ToSlashPreserveLeading.f kj2 t137).bind fun t139 => (if 1 + a0.size ≤ 9223372036854775807 then (if t139.toList = ((⟨#[47]⟩ : ByteArray) ++ a0).toList then ((impl_ToSlashTrimLeading.f ((⟨#[47]⟩ : ByteArray) ++ a0)).bind fun t140 => (if t140.toList = a0.toList then (if a0.size + 1 ≤ 9223372036854775807 then ((impl_ToSlashTrimTrailing.f (a0 ++ (⟨#[47]⟩ : ByteArray))).bind fun t141 => (some (t141.toList == a0.toList))) else (none)) else (some false))) else (some false)) else (none))) else (some false)))) else (some false)) = some r := H
            have A18 := Aside0.mk A180
            clear A180
            by_cases c19 : t136.toList = a0.toList
            · rw [if_pos c19] at H
              have c19b0 : (t136.toList == a0.toList) = true := beq_iff_eq.mpr c19
              have c19b1 : (t136.toList != a0.toList) = false := bne_eq_false_iff_eq.mpr c19
              clear c19
              replace H := Option.bind_eq_some_iff.mp H
              obtain ⟨t137, A200, H⟩ := H
              replace H : ((impl_ToSlashTrim.f kj2 t137).bind fun t138 => (if t138.toList = a0.toList then ((impl_ToSlashPreserveLeading.f kj2 t137).bind fun t139 => (if 1 + a0.size ≤ 9223372036854775807 then (if t139.toList = ((⟨#[47]⟩ : ByteArray) ++ a0).toList then ((impl_ToSlashTrimLeading.f ((⟨#[47]⟩ : ByteArray) ++ a0)).bind fun t140 => (if t140.toList = a0.toList then (if a0.size + 1 ≤ 9223372036854775807 then ((impl_ToSlashTrimTrailing.f (a0 ++ (⟨#[47]⟩ : ByteArray))).bind fun t141 => (some (t141.toList == a0.toList))) else (none)) else (some false))) else (some false)) else (none))) else (some false))) = some r := H
              have A20 := Aside0.mk A200
              clear A200
              replace H := Option.bind_eq_some_iff.mp H
              obtain ⟨t138, A210, H⟩ := H
              replace H : (if t138.toList = a0.toList then ((impl_ToSlashPreserveLeading.f kj2 t137).bind fun t139 => (if 1 + a0.size ≤ 9223372036854775807 then (if t139.toList = ((⟨#[47]⟩ : ByteArray) ++ a0).toList then ((impl_ToSlashTrimLeading.f ((⟨#[47]⟩ : ByteArray) ++ a0)).bind fun t140 => (if t140.toList = a0.toList then (if a0.size + 1 ≤ 9223372036854775807 then ((impl_ToSlashTrimTrailing.f (a0 ++ (⟨#[47]⟩ : ByteArray))).bind fun t141 => (some (t141.toList == a0.toList))) else (none)) else (some false))) else (some false)) else (none))) else (some false)) = some r := H
              have A21 := Aside0.mk A210
              clear A210
              by_cases c22 : t138.toList = a0.toList
              · rw [if_pos c22] at H
                have c22b0 : (t138.toList == a0.toList) = true := beq_iff_eq.mpr c22
                have c22b1 : (t138.toList != a0.toList) = false := bne_eq_false_iff_eq.mpr c22
                clear c22
                replace H := Option.bind_eq_some_iff.mp H
                obtain ⟨t139, A230, H⟩ := H
                replace H : (if 1 + a0.size ≤ 9223372036854775807 then (if t139.toList = ((⟨#[47]⟩ : ByteArray) ++ a0).toList then ((impl_ToSlashTrimLeading.f ((⟨#[47]⟩ : ByteArray) ++ a0)).bind fun t140 => (if t140.toList = a0.toList then (if a0.size + 1 ≤ 9223372036854775807 then ((impl_ToSlashTrimTrailing.f (a0 ++ (⟨#[47]⟩ : ByteArray))).bind fun t141 => (some (t141.toList == a0.toList))) else (none)) else (some false))) else (some false)) else (none)) = some r := H
                have A23 := Aside0.mk A230
                clear A230
                by_cases c24 : 1 + a0.size ≤ 9223372036854775807
                · rw [if_pos c24] at H
                  have c24b0 := eq_true c24
                  have c24b1 : decide (1 + a0.size ≤ 9223372036854775807) = true := decide_eq_true c24
                  try have c24b2 : (9223372036854775807 < 1 + a0.size) = False := eq_false (Nat.not_lt.2 c24)
                  by_cases c25 : t139.toList = ((⟨#[47]⟩ : ByteArray) ++ a0).toList
                  · rw [if_pos c25] at H
                    have c25b0 : (t139.toList == ((⟨#[47]⟩ : ByteArray) ++ a0).toList) = true := beq_iff_eq.mpr c25
                    have c25b1 : (t139.toList != ((⟨#[47]⟩ : ByteArray) ++ a0).toList) = false := bne_eq_false_iff_eq.mpr c25
                    clear c25
                    replace H := Option.bind_eq_some_iff.mp H
                    obtain ⟨t140, A260, H⟩ := H
                    replace H : (if t140.toList = a0.toList then (if a0.size + 1 ≤ 9223372036854775807 then ((impl_ToSlashTrimTrailing.f (a0 ++ (⟨#[47]⟩ : ByteArray))).bind fun t141 => (some (t141.toList == a0.toList))) else (none)) else (some false)) = some r := H
                    have A26 := Aside0.mk A260
                    clear A260
                    by_cases c27 : t140.toList = a0.toList
                    · rw [if_pos c27] at H
                      have c27b0 : (t140.toList == a0.toList) = true := beq_iff_eq.mpr c27
                      have c27b1 : (t140.toList != a0.toList) = false := bne_eq_false_iff_eq.mpr c27
                      clear c27
                      by_cases c28 : a0.size + 1 ≤ 9223372036854775807
                      · rw [if_pos c28] at H
                        have c28b0 := eq_true c28
                        have c28b1 : decide (a0.size + 1 ≤ 9223372036854775807) = true := decide_eq_true c28
                        try have c28b2 : (9223372036854775807 < a0.size + 1) = False := eq_false (Nat.not_lt.2 c28)
                        replace H := Option.bind_eq_some_iff.mp H
                        obtain ⟨t141, A290, H⟩ := H
                        replace H : (some (t141.toList == a0.toList)) = some r := H
                        have A29 := Aside0.mk A290
                        clear A290
                        obtain rfl := Option.some.inj H
                        go_wp2_with (first | ((with_reducible refine gate_callee (f := 11) rfl ?_); refine goesL_ (some 27) rfl rfl Try.func11 (by kernel_rfl) rfl #[.string a0] rfl (by (try simp only [List.map_toArray, List.map_cons, List.map_nil]); first | done | rfl | (simp only [List.length_drop, List.length_take]; rfl)) ?_; (with_reducible refine (impl_AddLeadingSlash.calls a0 t133 _ A14.out).mono ?_); rintro e w' ⟨rfl, ⟨nd, rfl⟩⟩; refine ⟨_, rfl, ?_⟩) | ((with_reducible refine gate_callee (f := 15) rfl ?_); refine goesL_ (some 28) rfl rfl Try.func15 (by kernel_rfl) rfl #[.string t133] rfl (by (try simp only [List.map_toArray, List.map_cons, List.map_nil]); first | done | rfl | (simp only [List.length_drop, List.length_take]; rfl)) ?_; (with_reducible refine (impl_TrimLeading.calls t133 t134 _ A15.out).mono ?_); rintro e w' ⟨rfl, ⟨nd, rfl⟩⟩; refine ⟨_, rfl, ?_⟩) | (go_at_call 9; (with_reducible refine (impl_AddTrailingSlash.calls a0 t135 _ A17.out).mono ?_); rintro e w' ⟨rfl, ⟨nd, rfl⟩⟩) | (go_at_call 17; (with_reducible refine (impl_TrimTrailing.calls t135 t136 _ A18.out).mono ?_); rintro e w' ⟨rfl, ⟨nd, rfl⟩⟩) | (go_at_call 13; (with_reducible refine (impl_AddBothSlashes.calls a0 t137 _ A20.out).mono ?_); rintro e w' ⟨rfl, ⟨nd, rfl⟩⟩) | (go_at_call 19; (with_reducible refine (impl_ToSlashTrim.calls kj2 t137 t138 _ A21.out).mono ?_); rintro e w30 ⟨rfl, hb⟩; have n0_ := Aside0.mk (below_step (by repeat (first | (with_reducible first | exact HB.out | apply below_alloc | apply pw_below_drewN | apply below_drew1) | exact HB.out)) hb); clear HB; have HB := n0_; clear n0_; (try clear hb); (try clear hb2); (try clear hk); (try clear hi)) | (go_at_call 25; (with_reducible refine (impl_ToSlashPreserveLeading.calls kj2 t137 t139 _ A23.out).mono ?_); rintro e w31 ⟨rfl, hb⟩; have n0_ := Aside0.mk (below_step (by repeat (first | (with_reducible first | exact HB.out | apply below_alloc | apply pw_below_drewN | apply below_drew1) | exact HB.out)) hb); clear HB; have HB := n0_; clear n0_; (try clear hb); (try clear hb2); (try clear hk); (try clear hi)) | (go_at_call 21; (with_reducible refine (impl_ToSlashTrimLeading.calls ((⟨#[47]⟩ : ByteArray) ++ a0) t140 _ A26.out).mono ?_); rintro e w' ⟨rfl, ⟨nd, rfl⟩⟩) | (go_at_call 23; (with_reducible refine (impl_ToSlashTrimTrailing.calls (a0 ++ (⟨#[47]⟩ : ByteArray)) t141 _ A29.out).mono ?_); rintro e w' ⟨rfl, ⟨nd, rfl⟩⟩))
                        go_ret
                        exact ⟨by first | rfl | (simp [errW_none, errW_some] <;> rfl) | (simp [*, errW_none, errW_some] <;> rfl), by repeat (first | (with_reducible first | exact HB.out | apply below_alloc | apply pw_below_drewN | apply below_drew1) | exact HB.out)⟩
                      · rw [if_neg c28] at H
                        exact absurd H (by simp)
                    · rw [if_neg c27] at H
                      have c27b0 : (t140.toList == a0.toList) = false := beq_eq_false_iff_ne.mpr c27
                      have c27b1 : (t140.toList != a0.toList) = true := bne_iff_ne.mpr c27
                      obtain rfl := Option.some.inj H
                      go_wp2_with (first | ((with_reducible refine gate_callee (f := 11) rfl ?_); refine goesL_ (some 27) rfl rfl Try.func11 (by kernel_rfl) rfl #[.string a0] rfl (by (try simp only [List.map_toArray, List.map_cons, List.map_nil]); first | done | rfl | (simp only [List.length_drop, List.length_take]; rfl)) ?_; (with_reducible refine (impl_AddLeadingSlash.calls a0 t133 _ A14.out).mono ?_); rintro e w' ⟨rfl, ⟨nd, rfl⟩⟩; refine ⟨_, rfl, ?_⟩) | ((with_reducible refine gate_callee (f := 15) rfl ?_); refine goesL_ (some 28) rfl rfl Try.func15 (by kernel_rfl) rfl #[.string t133] rfl (by (try simp only [List.map_toArray, List.map_cons, List.map_nil]); first | done | rfl | (simp only [List.length_drop, List.length_take]; rfl)) ?_; (with_reducible refine (impl_TrimLeading.calls t133 t134 _ A15.out).mono ?_); rintro e w' ⟨rfl, ⟨nd, rfl⟩⟩; refine ⟨_, rfl, ?_⟩) | (go_at_call 9; (with_reducible refine (impl_AddTrailingSlash.calls a0 t135 _ A17.out).mono ?_); rintro e w' ⟨rfl, ⟨nd, rfl⟩⟩) | (go_at_call 17; (with_reducible refine (impl_TrimTrailing.calls t135 t136 _ A18.out).mono ?_); rintro e w' ⟨rfl, ⟨nd, rfl⟩⟩) | (go_at_call 13; (with_reducible refine (impl_AddBothSlashes.calls a0 t137 _ A20.out).mono ?_); rintro e w' ⟨rfl, ⟨nd, rfl⟩⟩) | (go_at_call 19; (with_reducible refine (impl_ToSlashTrim.calls kj2 t137 t138 _ A21.out).mono ?_); rintro e w32 ⟨rfl, hb⟩; have n0_ := Aside0.mk (below_step (by repeat (first | (with_reducible first | exact HB.out | apply below_alloc | apply pw_below_drewN | apply below_drew1) | exact HB.out)) hb); clear HB; have HB := n0_; clear n0_; (try clear hb); (try clear hb2); (try clear hk); (try clear hi)) | (go_at_call 25; (with_reducible refine (impl_ToSlashPreserveLeading.calls kj2 t137 t139 _ A23.out).mono ?_); rintro e w33 ⟨rfl, hb⟩; have n0_ := Aside0.mk (below_step (by repeat (first | (with_reducible first | exact HB.out | apply below_alloc | apply pw_below_drewN | apply below_drew1) | exact HB.out)) hb); clear HB; have HB := n0_; clear n0_; (try clear hb); (try clear hb2); (try clear hk); (try clear hi)) | (go_at_call 21; (with_reducible refine (impl_ToSlashTrimLeading.calls ((⟨#[47]⟩ : ByteArray) ++ a0) t140 _ A26.out).mono ?_); rintro e w' ⟨rfl, ⟨nd, rfl⟩⟩))
                      go_ret
                      exact ⟨by first | rfl | (simp [errW_none, errW_some] <;> rfl) | (simp [*, errW_none, errW_some] <;> rfl), by repeat (first | (with_reducible first | exact HB.out | apply below_alloc | apply pw_below_drewN | apply below_drew1) | exact HB.out)⟩
                  · rw [if_neg c25] at H
                    have c25b0 : (t139.toList == ((⟨#[47]⟩ : ByteArray) ++ a0).toList) = false := beq_eq_false_iff_ne.mpr c25
                    have c25b1 : (t139.toList != ((⟨#[47]⟩ : ByteArray) ++ a0).toList) = true := bne_iff_ne.mpr c25
                    obtain rfl := Option.some.inj H
                    go_wp2_with (first | ((with_reducible refine gate_callee (f := 11) rfl ?_); refine goesL_ (some 27) rfl rfl Try.func11 (by kernel_rfl) rfl #[.string a0] rfl (by (try simp only [List.map_toArray, List.map_cons, List.map_nil]); first | done | rfl | (simp only [List.length_drop, List.length_take]; rfl)) ?_; (with_reducible refine (impl_AddLeadingSlash.calls a0 t133 _ A14.out).mono ?_); rintro e w' ⟨rfl, ⟨nd, rfl⟩⟩; refine ⟨_, rfl, ?_⟩) | ((with_reducible refine gate_callee (f := 15) rfl ?_); refine goesL_ (some 28) rfl rfl Try.func15 (by kernel_rfl) rfl #[.string t133] rfl (by (try simp only [List.map_toArray, List.map_cons, List.map_nil]); first | done | rfl | (simp only [List.length_drop, List.length_take]; rfl)) ?_; (with_reducible refine (impl_TrimLeading.calls t133 t134 _ A15.out).mono ?_); rintro e w' ⟨rfl, ⟨nd, rfl⟩⟩; refine ⟨_, rfl, ?_⟩) | (go_at_call 9; (with_reducible refine (impl_AddTrailingSlash.calls a0 t135 _ A17.out).mono ?_); rintro e w' ⟨rfl, ⟨nd, rfl⟩⟩) | (go_at_call 17; (with_reducible refine (impl_TrimTrailing.calls t135 t136 _ A18.out).mono ?_); rintro e w' ⟨rfl, ⟨nd, rfl⟩⟩) | (go_at_call 13; (with_reducible refine (impl_AddBothSlashes.calls a0 t137 _ A20.out).mono ?_); rintro e w' ⟨rfl, ⟨nd, rfl⟩⟩) | (go_at_call 19; (with_reducible refine (impl_ToSlashTrim.calls kj2 t137 t138 _ A21.out).mono ?_); rintro e w34 ⟨rfl, hb⟩; have n0_ := Aside0.mk (below_step (by repeat (first | (with_reducible first | exact HB.out | apply below_alloc | apply pw_below_drewN | apply below_drew1) | exact HB.out)) hb); clear HB; have HB := n0_; clear n0_; (try clear hb); (try clear hb2); (try clear hk); (try clear hi)) | (go_at_call 25; (with_reducible refine (impl_ToSlashPreserveLeading.calls kj2 t137 t139 _ A23.out).mono ?_); rintro e w35 ⟨rfl, hb⟩; have n0_ := Aside0.mk (below_step (by repeat (first | (with_reducible first | exact HB.out | apply below_alloc | apply pw_below_drewN | apply below_drew1) | exact HB.out)) hb); clear HB; have HB := n0_; clear n0_; (try clear hb); (try clear hb2); (try clear hk); (try clear hi)))
                    go_ret
                    exact ⟨by first | rfl | (simp [errW_none, errW_some] <;> rfl) | (simp [*, errW_none, errW_some] <;> rfl), by repeat (first | (with_reducible first | exact HB.out | apply below_alloc | apply pw_below_drewN | apply below_drew1) | exact HB.out)⟩
                · rw [if_neg c24] at H
                  exact absurd H (by simp)
              · rw [if_neg c22] at H
                have c22b0 : (t138.toList == a0.toList) = false := beq_eq_false_iff_ne.mpr c22
                have c22b1 : (t138.toList != a0.toList) = true := bne_iff_ne.mpr c22
                obtain rfl := Option.some.inj H
                go_wp2_with (first | ((with_reducible refine gate_callee (f := 11) rfl ?_); refine goesL_ (some 27) rfl rfl Try.func11 (by kernel_rfl) rfl #[.string a0] rfl (by (try simp only [List.map_toArray, List.map_cons, List.map_nil]); first | done | rfl | (simp only [List.length_drop, List.length_take]; rfl)) ?_; (with_reducible refine (impl_AddLeadingSlash.calls a0 t133 _ A14.out).mono ?_); rintro e w' ⟨rfl, ⟨nd, rfl⟩⟩; refine ⟨_, rfl, ?_⟩) | ((with_reducible refine gate_callee (f := 15) rfl ?_); refine goesL_ (some 28) rfl rfl Try.func15 (by kernel_rfl) rfl #[.string t133] rfl (by (try simp only [List.map_toArray, List.map_cons, List.map_nil]); first | done | rfl | (simp only [List.length_drop, List.length_take]; rfl)) ?_; (with_reducible refine (impl_TrimLeading.calls t133 t134 _ A15.out).mono ?_); rintro e w' ⟨rfl, ⟨nd, rfl⟩⟩; refine ⟨_, rfl, ?_⟩) | (go_at_call 9; (with_reducible refine (impl_AddTrailingSlash.calls a0 t135 _ A17.out).mono ?_); rintro e w' ⟨rfl, ⟨nd, rfl⟩⟩) | (go_at_call 17; (with_reducible refine (impl_TrimTrailing.calls t135 t136 _ A18.out).mono ?_); rintro e w' ⟨rfl, ⟨nd, rfl⟩⟩) | (go_at_call 13; (with_reducible refine (impl_AddBothSlashes.calls a0 t137 _ A20.out).mono ?_); rintro e w' ⟨rfl, ⟨nd, rfl⟩⟩) | (go_at_call 19; (with_reducible refine (impl_ToSlashTrim.calls kj2 t137 t138 _ A21.out).mono ?_); rintro e w36 ⟨rfl, hb⟩; have n0_ := Aside0.mk (below_step (by repeat (first | (with_reducible first | exact HB.out | apply below_alloc | apply pw_below_drewN | apply below_drew1) | exact HB.out)) hb); clear HB; have HB := n0_; clear n0_; (try clear hb); (try clear hb2); (try clear hk); (try clear hi)))
                go_ret
                exact ⟨by first | rfl | (simp [errW_none, errW_some] <;> rfl) | (simp [*, errW_none, errW_some] <;> rfl), by repeat (first | (with_reducible first | exact HB.out | apply below_alloc | apply pw_below_drewN | apply below_drew1) | exact HB.out)⟩
            · rw [if_neg c19] at H
              have c19b0 : (t136.toList == a0.toList) = false := beq_eq_false_iff_ne.mpr c19
              have c19b1 : (t136.toList != a0.toList) = true := bne_iff_ne.mpr c19
              obtain rfl := Option.some.inj H
              go_wp2_with (first | ((with_reducible refine gate_callee (f := 11) rfl ?_); refine goesL_ (some 27) rfl rfl Try.func11 (by kernel_rfl) rfl #[.string a0] rfl (by (try simp only [List.map_toArray, List.map_cons, List.map_nil]); first | done | rfl | (simp only [List.length_drop, List.length_take]; rfl)) ?_; (with_reducible refine (impl_AddLeadingSlash.calls a0 t133 _ A14.out).mono ?_); rintro e w' ⟨rfl, ⟨nd, rfl⟩⟩; refine ⟨_, rfl, ?_⟩) | ((with_reducible refine gate_callee (f := 15) rfl ?_); refine goesL_ (some 28) rfl rfl Try.func15 (by kernel_rfl) rfl #[.string t133] rfl (by (try simp only [List.map_toArray, List.map_cons, List.map_nil]); first | done | rfl | (simp only [List.length_drop, List.length_take]; rfl)) ?_; (with_reducible refine (impl_TrimLeading.calls t133 t134 _ A15.out).mono ?_); rintro e w' ⟨rfl, ⟨nd, rfl⟩⟩; refine ⟨_, rfl, ?_⟩) | (go_at_call 9; (with_reducible refine (impl_AddTrailingSlash.calls a0 t135 _ A17.out).mono ?_); rintro e w' ⟨rfl, ⟨nd, rfl⟩⟩) | (go_at_call 17; (with_reducible refine (impl_TrimTrailing.calls t135 t136 _ A18.out).mono ?_); rintro e w' ⟨rfl, ⟨nd, rfl⟩⟩))
              go_ret
              exact ⟨by first | rfl | (simp [errW_none, errW_some] <;> rfl) | (simp [*, errW_none, errW_some] <;> rfl), by repeat (first | (with_reducible first | exact HB.out | apply below_alloc | apply pw_below_drewN | apply below_drew1) | exact HB.out)⟩
          · rw [if_neg c16] at H
            have c16b0 : (t134.toList == a0.toList) = false := beq_eq_false_iff_ne.mpr c16
            have c16b1 : (t134.toList != a0.toList) = true := bne_iff_ne.mpr c16
            obtain rfl := Option.some.inj H
            go_wp2_with (first | ((with_reducible refine gate_callee (f := 11) rfl ?_); refine goesL_ (some 27) rfl rfl Try.func11 (by kernel_rfl) rfl #[.string a0] rfl (by (try simp only [List.map_toArray, List.map_cons, List.map_nil]); first | done | rfl | (simp only [List.length_drop, List.length_take]; rfl)) ?_; (with_reducible refine (impl_AddLeadingSlash.calls a0 t133 _ A14.out).mono ?_); rintro e w' ⟨rfl, ⟨nd, rfl⟩⟩; refine ⟨_, rfl, ?_⟩) | ((with_reducible refine gate_callee (f := 15) rfl ?_); refine goesL_ (some 28) rfl rfl Try.func15 (by kernel_rfl) rfl #[.string t133] rfl (by (try simp only [List.map_toArray, List.map_cons, List.map_nil]); first | done | rfl | (simp only [List.length_drop, List.length_take]; rfl)) ?_; (with_reducible refine (impl_TrimLeading.calls t133 t134 _ A15.out).mono ?_); rintro e w' ⟨rfl, ⟨nd, rfl⟩⟩; refine ⟨_, rfl, ?_⟩))
            go_ret
            exact ⟨by first | rfl | (simp [errW_none, errW_some] <;> rfl) | (simp [*, errW_none, errW_some] <;> rfl), by repeat (first | (with_reducible first | exact HB.out | apply below_alloc | apply pw_below_drewN | apply below_drew1) | exact HB.out)⟩

/-- THE ONE PURE STATEMENT of laws_FnSlashesTrimmed: yours. -/
def laws_FnSlashesTrimmed.Pure : Prop := ∀ (a0 : ByteArray), a0.size ≤ 140737488351232 → ∃ k, laws_FnSlashesTrimmed.f k a0 = some true
theorem laws_FnSlashesTrimmed.walk (P : laws_FnSlashesTrimmed.Pure) (a0 : ByteArray) (w : World) (w0 : a0.size ≤ 140737488351232) :
    Calls Try.prog 4 #[.string a0] w fun e w' => e = .returned (.bool true) ∧ Below w.heap.size w w' := by
  obtain ⟨k, h⟩ := P a0 w0
  refine (laws_FnSlashesTrimmed.calls k a0 true w h).mono ?_
  rintro e w' ⟨rfl, hd⟩
  exact ⟨rfl, hd⟩

end Go.Proofs.Ytckfbpgjegbmlaa.PFnSlashesTrimmed
