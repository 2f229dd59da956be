/- Printed by a program of this session (a printer turned to take contracts that were proved by hand): functions with the answers of the Go functions, and proofs that the code comes to these answers; no condition beyond what each theorem names. -/
import Derived.Test.YtckfbpgjegbmlaaPFnAbsAlonex0
namespace Go.Proofs.Ytckfbpgjegbmlaa.PFnAbsAlone
open Go.RowKit Go.Proofs.YtckfbpgjegbmlaaW.PrintWords Go.Proofs.YtckfbpgjegbmlaaW.PrintLast Go.Proofs.YtckfbpgjegbmlaaW.PrintMore
attribute [local go_sem] max2_int min2_int max_two min_two max_three min_three max_four min_four   -- for this text's walks alone
set_option linter.unusedVariables false
set_option linter.unusedSimpArgs false

/-! ### stringslite_HasPrefix: function 59 -/
def stringslite_HasPrefix.f (a0 : ByteArray) (a1 : ByteArray) : Option (Bool) := if (a0.size : Int) ≥ (a1.size : Int) then (if 0 ≤ (a1.size : Int) then (if (a1.size : Int) ≤ (a0.size : Int) then (some ((a0.extract 0 ((a1.size : Int) : Int).toNat).toList == a1.toList)) else (none)) else (none)) else (some false)
set_option maxHeartbeats 8000000 in
set_option maxRecDepth 100000 in
theorem stringslite_HasPrefix.calls (a0 : ByteArray) (a1 : ByteArray) (r : Bool) (w : World) (h : stringslite_HasPrefix.f a0 a1 = some r) :
    Calls Try.prog 59 #[.string a0, .string a1] w fun e w' => e = .returned (.bool r) ∧ Drawn0 w w' := by
  have H : (if (a0.size : Int) ≥ (a1.size : Int) then (if 0 ≤ (a1.size : Int) then (if (a1.size : Int) ≤ (a0.size : Int) then (some ((a0.extract 0 ((a1.size : Int) : Int).toNat).toList == a1.toList)) else (none)) else (none)) else (some false)) = some r := h
  clear h
  by_cases c3 : (a0.size : Int) ≥ (a1.size : Int)
  · rw [if_pos c3] at H
    have c3b0 : decide ((a1.size : Int) ≤ (a0.size : Int)) = true := decide_eq_true c3
    have c3b1 : decide (a1.size ≤ a0.size) = true := decide_eq_true (Int.ofNat_le.mp c3)
    clear c3
    by_cases c4 : 0 ≤ (a1.size : Int)
    · rw [if_pos c4] at H
      have c4b0 := eq_true c4
      have c4b1 : decide (0 ≤ (a1.size : Int)) = true := decide_eq_true c4
      clear c4
      by_cases c5 : (a1.size : Int) ≤ (a0.size : Int)
      · rw [if_pos c5] at H
        have c5b0 := eq_true c5
        have c5b1 : decide ((a1.size : Int) ≤ (a0.size : Int)) = true := decide_eq_true c5
        clear c5
        obtain rfl := Option.some.inj H
        go_enter Try.func59, Try.ntmps59
        go_wp2
        go_ret
        exact ⟨by first | rfl | (simp; done) | (simp [*]; done), by repeat (first | exact Drawn0.refl _ | apply Drawn0.step)⟩
      · rw [if_neg c5] at H
        exact absurd H (by simp)
    · rw [if_neg c4] at H
      exact absurd H (by simp)
  · rw [if_neg c3] at H
    have c3b0 : decide ((a1.size : Int) ≤ (a0.size : Int)) = false := decide_eq_false c3
    have c3b1 : decide (a1.size ≤ a0.size) = false := decide_eq_false (fun h => c3 (Int.ofNat_le.mpr h))
    clear c3
    obtain rfl := Option.some.inj H
    go_enter Try.func59, Try.ntmps59
    go_wp2
    go_ret
    exact ⟨by first | rfl | (simp; done) | (simp [*]; done), by repeat (first | exact Drawn0.refl _ | apply Drawn0.step)⟩

/-! ### filepathlite_IsAbs: function 68 -/
def filepathlite_IsAbs.f (a0 : ByteArray) : Option (Bool) := (stringslite_HasPrefix.f a0 (⟨#[47]⟩ : ByteArray)).bind fun t101 => (some t101)
set_option maxHeartbeats 8000000 in
set_option maxRecDepth 100000 in
theorem filepathlite_IsAbs.calls (a0 : ByteArray) (r : Bool) (w : World) (h : filepathlite_IsAbs.f a0 = some r) :
    Calls Try.prog 68 #[.string a0] w fun e w' => e = .returned (.bool r) ∧ Drawn0 w w' := by
  have H : ((stringslite_HasPrefix.f a0 (⟨#[47]⟩ : ByteArray)).bind fun t101 => (some t101)) = some r := h
  clear h
  replace H := Option.bind_eq_some_iff.mp H
  obtain ⟨t101, A20, H⟩ := H
  replace H : (some t101) = some r := H
  have A2 := Aside0.mk A20
  clear A20
  obtain rfl := Option.some.inj H
  go_enter Try.func68, Try.ntmps68
  go_wp2_with (first | ((with_reducible refine gate_callee (f := 59) rfl ?_); refine goesL_ (some 4) rfl rfl Try.func59 (by kernel_rfl) rfl #[.string a0, .string (⟨#[47]⟩ : ByteArray)] rfl (by (try simp only [List.map_toArray, List.map_cons, List.map_nil]); first | done | rfl | (simp only [List.length_drop, List.length_take]; rfl)) ?_; (with_reducible refine (stringslite_HasPrefix.calls a0 (⟨#[47]⟩ : ByteArray) t101 _ A2.out).mono ?_); rintro e w' ⟨rfl, ⟨nd, rfl⟩⟩; refine ⟨_, rfl, ?_⟩))
  go_ret
  exact ⟨by first | rfl | (simp; done) | (simp [*]; done), by repeat (first | exact Drawn0.refl _ | apply Drawn0.step)⟩

/-! ### filepath_IsAbs: function 55 -/
def filepath_IsAbs.f (a0 : ByteArray) : Option (Bool) := (filepathlite_IsAbs.f a0).bind fun t102 => (some t102)
set_option maxHeartbeats 8000000 in
set_option maxRecDepth 100000 in
theorem filepath_IsAbs.calls (a0 : ByteArray) (r : Bool) (w : World) (h : filepath_IsAbs.f a0 = some r) :
    Calls Try.prog 55 #[.string a0] w fun e w' => e = .returned (.bool r) ∧ Drawn0 w w' := by
  have H : ((filepathlite_IsAbs.f a0).bind fun t102 => (some t102)) = some r := h
  clear h
  replace H := Option.bind_eq_some_iff.mp H
  obtain ⟨t102, A20, H⟩ := H
  replace H : (some t102) = some r := H
  have A2 := Aside0.mk A20
  clear A20
  obtain rfl := Option.some.inj H
  go_enter Try.func55, Try.ntmps55
  go_wp2_with (first | ((with_reducible refine gate_callee (f := 68) rfl ?_); refine goesL_ (some 4) rfl rfl Try.func68 (by kernel_rfl) rfl #[.string a0] rfl (by (try simp only [List.map_toArray, List.map_cons, List.map_nil]); first | done | rfl | (simp only [List.length_drop, List.length_take]; rfl)) ?_; (with_reducible refine (filepathlite_IsAbs.calls a0 t102 _ A2.out).mono ?_); rintro e w' ⟨rfl, ⟨nd, rfl⟩⟩; refine ⟨_, rfl, ?_⟩))
  go_ret
  exact ⟨by first | rfl | (simp; done) | (simp [*]; done), by repeat (first | exact Drawn0.refl _ | apply Drawn0.step)⟩

/-! ### paths_AbsPathify: function 46 -/
def paths_AbsPathify.f (a0 : ByteArray) (a1 : ByteArray) : Option (ByteArray) := (filepath_IsAbs.f a1).bind fun t103 => (if t103 = true then ((filepath_Clean.f a1).bind fun t104 => (some t104)) else ((filepath_Join.f (([a0, a1] : List ByteArray))).bind fun t108 => (some t108)))
set_option maxHeartbeats 8000000 in
set_option maxRecDepth 100000 in
theorem paths_AbsPathify.calls (a0 : ByteArray) (a1 : ByteArray) (r : ByteArray) (w : World) (h : paths_AbsPathify.f a0 a1 = some r) :
    Calls Try.prog 46 #[.string a0, .string a1] w fun e w' => e = .returned (.string r) ∧ Below w.heap.size w w' := by
  have HB := Aside0.mk (Below.refl w.heap.size w)
  have H : ((filepath_IsAbs.f a1).bind fun t103 => (if t103 = true then ((filepath_Clean.f a1).bind fun t104 => (some t104)) else ((filepath_Join.f (([a0, a1] : List ByteArray))).bind fun t108 => (some t108)))) = some r := h
  clear h
  replace H := Option.bind_eq_some_iff.mp H
  obtain ⟨t103, A30, H⟩ := H
  replace H : (if t103 = true then ((filepath_Clean.f a1).bind fun t104 => (some t104)) else ((filepath_Join.f (([a0, a1] : List ByteArray))).bind fun t108 => (some t108))) = some r := H
  have A3 := Aside0.mk A30
  clear A30
  by_cases c4 : t103 = true
  · subst c4
    have H1 : ((filepath_Clean.f a1).bind fun t104 => (some t104)) = some r := by rw [if_pos rfl] at H; exact H
    clear H
    have H := H1
    clear H1
    replace H := Option.bind_eq_some_iff.mp H
    obtain ⟨t104, A50, H⟩ := H
    replace H : (some t104) = some r := H
    have A5 := Aside0.mk A50
    clear A50
    obtain rfl := Option.some.inj H
    go_enter Try.func46, Try.ntmps46
    go_wp2_with (first | ((with_reducible refine gate_callee (f := 55) rfl ?_); refine goesL_ (some 6) rfl rfl Try.func55 (by kernel_rfl) rfl #[.string a1] rfl (by (try simp only [List.map_toArray, List.map_cons, List.map_nil]); first | done | rfl | (simp only [List.length_drop, List.length_take]; rfl)) ?_; (with_reducible refine (filepath_IsAbs.calls a1 true _ A3.out).mono ?_); rintro e w' ⟨rfl, ⟨nd, rfl⟩⟩; refine ⟨_, rfl, ?_⟩) | ((with_reducible refine gate_callee (f := 56) rfl ?_); refine goesL_ (some 8) rfl rfl Try.func56 (by kernel_rfl) rfl #[.string a1] rfl (by (try simp only [List.map_toArray, List.map_cons, List.map_nil]); first | done | rfl | (simp only [List.length_drop, List.length_take]; rfl)) ?_; (with_reducible refine (filepath_Clean.calls a1 t104 _ A5.out).mono ?_); rintro e w6 ⟨rfl, hb⟩; refine ⟨_, rfl, ?_⟩; have n0_ := Aside0.mk (below_step (by repeat (first | (with_reducible first | exact HB.out | apply below_alloc | apply pw_below_drewN | apply below_drew1) | exact HB.out)) hb); clear HB; have HB := n0_; clear n0_; (try clear hb); (try clear hb2); (try clear hk); (try clear hi)))
    go_ret
    exact ⟨by first | rfl | (simp [errW_none, errW_some] <;> rfl) | (simp [*, errW_none, errW_some] <;> rfl), by repeat (first | (with_reducible first | exact HB.out | apply below_alloc | apply pw_below_drewN | apply below_drew1) | exact HB.out)⟩
  · replace c4 := Bool.eq_false_iff.mpr c4
    subst c4
    have H1 : ((filepath_Join.f (([a0, a1] : List ByteArray))).bind fun t108 => (some t108)) = some r := by rw [if_neg (show ¬ (false = true) by decide)] at H; exact H
    clear H
    have H := H1
    clear H1
    obtain ⟨y105, hy105⟩ : ∃ y_ : List ByteArray, y_ = (([a0, a1] : List ByteArray)) := ⟨_, rfl⟩
    replace H : ((filepath_Join.f y105).bind fun t108 => (some t108)) = some r := by first | (rw [hy105]; with_reducible exact H) | (have H2_ := (Option.bind_some _ _).symm.trans H; rw [hy105]; with_reducible exact H2_) | (have H2_ := (Option.bind_some _ _).symm.trans H; with_reducible exact H2_) | with_reducible exact H | (rw [hy105]; exact H) | exact H
    have Ny105 := Aside0.mk hy105
    clear hy105
    replace H := Option.bind_eq_some_iff.mp H
    obtain ⟨t108, A70, H⟩ := H
    replace H : (some t108) = some r := H
    have A7 := Aside0.mk A70
    clear A70
    obtain rfl := Option.some.inj H
    go_enter Try.func46, Try.ntmps46
    go_wp2_with (first | ((with_reducible refine gate_callee (f := 55) rfl ?_); refine goesL_ (some 6) rfl rfl Try.func55 (by kernel_rfl) rfl #[.string a1] rfl (by (try simp only [List.map_toArray, List.map_cons, List.map_nil]); first | done | rfl | (simp only [List.length_drop, List.length_take]; rfl)) ?_; (with_reducible refine (filepath_IsAbs.calls a1 false _ A3.out).mono ?_); rintro e w' ⟨rfl, ⟨nd, rfl⟩⟩; refine ⟨_, rfl, ?_⟩) | ((with_reducible refine gate_dst (N := 11) rfl ?_); refine Kd.R_lit Kd.string _ 9 ?hg (N := 11) ?hd (xs := ([a0, a1] : List ByteArray)) (inner := [.string a0, .string a1]) (ok := fun _ => True) (okp := fun _ => True) ?hr ?hp (fun _ hk => hk) trivial (Below.refl _ _) (Nat.le_refl _) (by simp) ?_; (case hd => rfl); (case hg => rfl); (case hr => first | (go_simp; done) | (go_simp; rfl)); (case hp => exact (Reps.one (show Kd.M Kd.string _ _ _ a0 [.string a0] from rfl) (Reps.one (show Kd.M Kd.string _ _ _ a1 [.string a1] from rfl) (Reps.none _ _)))); intro v106 w8 ho9 hb hg_ hnew_; clear hg_ hnew_; (first | rw [← Ny105.out] at ho9 | (simp only [Int.reduceToNat] at ho9; rw [← Ny105.out] at ho9)); have n0_ := Aside0.mk (Kd.R_lower ho9 (below_size (by repeat (first | (with_reducible first | exact HB.out | apply below_alloc | apply pw_below_drewN | apply below_drew1) | exact HB.out)))); have n1_ := Aside0.mk (below_step (by repeat (first | (with_reducible first | exact HB.out | apply below_alloc | apply pw_below_drewN | apply below_drew1) | exact HB.out)) hb); clear HB; have HO107 := n0_; have HB := n1_; clear n0_ n1_; clear hb ho9; obtain ⟨Ao10, co10, eo10⟩ := Kd.R_slice HO107.out; subst eo10) | ((with_reducible refine gate_callee (f := 57) rfl ?_); refine goesL_ (some 12) rfl rfl Try.func57 (by kernel_rfl) rfl #[.slice Ao10 y105.length co10] rfl (by (try simp only [List.map_toArray, List.map_cons, List.map_nil]); first | done | rfl | (simp only [List.length_drop, List.length_take]; rfl)) ?_; (with_reducible refine (filepath_Join.calls _ _ y105 t108 _ ?side1 ?side2 A7.out).mono ?_); (case side1 => repeat (first | exact (Kd.R_reads' HO107.out).2.2 | (with_reducible refine Kd.C_alloc ?_ _) | (with_reducible refine Kd.C_drewN ?_ _) | (with_reducible refine Kd.C_drew ?_))); (case side2 => exact (Kd.R_reads' HO107.out).2.1); rintro e w11 ⟨rfl, hb⟩; refine ⟨_, rfl, ?_⟩; have n0_ := Aside0.mk (Kd.R_below (by (with_reducible repeat (first | apply Kd.R_alloc | apply Kd.R_drewN | apply Kd.R_drew)); exact HO107.out) hb); have n1_ := Aside0.mk (below_step (by repeat (first | (with_reducible first | exact HB.out | apply below_alloc | apply pw_below_drewN | apply below_drew1) | exact HB.out)) hb); clear HO107; clear HB; have HO107 := n0_; have HB := n1_; clear n0_ n1_; (try clear hb); (try clear hb2); (try clear hk); (try clear hi)))
    go_ret
    exact ⟨by first | rfl | (simp [errW_none, errW_some] <;> rfl) | (simp [*, errW_none, errW_some] <;> rfl), by repeat (first | (with_reducible first | exact HB.out | apply below_alloc | apply pw_below_drewN | apply below_drew1) | exact HB.out)⟩

/-! ### impl_AbsPathify: function 31 -/
def impl_AbsPathify.f (a0 : ByteArray) (a1 : ByteArray) : Option (ByteArray) := (paths_AbsPathify.f a0 a1).bind fun t109 => (some t109)
set_option maxHeartbeats 8000000 in
set_option maxRecDepth 100000 in
theorem impl_AbsPathify.calls (a0 : ByteArray) (a1 : ByteArray) (r : ByteArray) (w : World) (h : impl_AbsPathify.f a0 a1 = some r) :
    Calls Try.prog 31 #[.string a0, .string a1] w fun e w' => e = .returned (.string r) ∧ Below w.heap.size w w' := by
  have HB := Aside0.mk (Below.refl w.heap.size w)
  have H : ((paths_AbsPathify.f a0 a1).bind fun t109 => (some t109)) = some r := h
  clear h
  replace H := Option.bind_eq_some_iff.mp H
  obtain ⟨t109, A30, H⟩ := H
  replace H : (some t109) = some r := H
  have A3 := Aside0.mk A30
  clear A30
  obtain rfl := Option.some.inj H
  go_enter Try.func31, Try.ntmps31
  go_wp2_with (first | ((with_reducible refine gate_callee (f := 46) rfl ?_); refine goesL_ (some 7) rfl rfl Try.func46 (by kernel_rfl) rfl #[.string a0, .string a1] rfl (by (try simp only [List.map_toArray, List.map_cons, List.map_nil]); first | done | rfl | (simp only [List.length_drop, List.length_take]; rfl)) ?_; (with_reducible refine (paths_AbsPathify.calls a0 a1 t109 _ A3.out).mono ?_); rintro e w4 ⟨rfl, hb⟩; refine ⟨_, rfl, ?_⟩; have n0_ := Aside0.mk (below_step (by repeat (first | (with_reducible first | exact HB.out | apply below_alloc | apply pw_below_drewN | apply below_drew1) | exact HB.out)) hb); clear HB; have HB := n0_; clear n0_; (try clear hb); (try clear hb2); (try clear hk); (try clear hi)))
  go_ret
  exact ⟨by first | rfl | (simp [errW_none, errW_some] <;> rfl) | (simp [*, errW_none, errW_some] <;> rfl), by repeat (first | (with_reducible first | exact HB.out | apply below_alloc | apply pw_below_drewN | apply below_drew1) | exact HB.out)⟩

/-! ### laws_FnAbsAlone: function 7 -/
def laws_FnAbsAlone.j0 : Nat → ByteArray → ByteArray → ByteArray → Bool → Option (Bool)
  | 0, _, _, _, _ => none
  | k + 1, x0, x1, x2, x19 => if x19 = true then (some true) else ((impl_AbsPathify.f (⟨#[47, 97]⟩ : ByteArray) (⟨#[98]⟩ : ByteArray)).bind fun t110 => (if t110.toList = ([47, 97, 47, 98] : List UInt8) then (if (wrap64 ((wrap64 ((x0.size : Int) + (x1.size : Int))) + (x2.size : Int))) > 65536 then (some true) else (if 1 + x2.size ≤ 9223372036854775807 then ((impl_AbsPathify.f x0 ((⟨#[47]⟩ : ByteArray) ++ x2)).bind fun t111 => ((impl_AbsPathify.f x1 ((⟨#[47]⟩ : ByteArray) ++ x2)).bind fun t112 => (if t111.toList = t112.toList then (if 1 + x0.size ≤ 9223372036854775807 then ((impl_AbsPathify.f ((⟨#[47]⟩ : ByteArray) ++ x0) ((⟨#[120]⟩ : ByteArray) ++ x2)).bind fun t113 => (if ((⟨#[47]⟩ : ByteArray) ++ x0).size + 2 ≤ 9223372036854775807 then (if (((⟨#[47]⟩ : ByteArray) ++ x0) ++ (⟨#[47, 120]⟩ : ByteArray)).size + x2.size ≤ 9223372036854775807 then ((impl_AbsPathify.f (⟨#[]⟩ : ByteArray) ((((⟨#[47]⟩ : ByteArray) ++ x0) ++ (⟨#[47, 120]⟩ : ByteArray)) ++ x2)).bind fun t114 => (some (t113.toList == t114.toList))) else (none)) else (none))) else (none)) else (some false)))) else (none))) else (some false)))
def laws_FnAbsAlone.f (k : Nat) (a0 : ByteArray) (a1 : ByteArray) (a2 : ByteArray) : Option (Bool) := if (a0.size : Int) > 2147483647 then (laws_FnAbsAlone.j0 k a0 a1 a2 true) else (if (a1.size : Int) > 2147483647 then (laws_FnAbsAlone.j0 k a0 a1 a2 true) else (laws_FnAbsAlone.j0 k a0 a1 a2 (decide ((a2.size : Int) > 2147483647))))
theorem laws_FnAbsAlone.mono_l : ∀ k, (∀ y0 y1 y2 y3, LeO (laws_FnAbsAlone.j0 k y0 y1 y2 y3) (laws_FnAbsAlone.j0 (k + 1) y0 y1 y2 y3))
  | 0 => fun _ _ _ _ r h => by simp [laws_FnAbsAlone.j0] at h
  | k + 1 => by
    have ih0 := laws_FnAbsAlone.mono_l k
    · intro y0 y1 y2 y3
      unfold laws_FnAbsAlone.j0
      repeat' first
      | (with_reducible exact ih0 _ _ _ _)
      | (with_reducible exact LeO.refl _)
      | (with_reducible exact LeO.none _)
      | (with_reducible refine LeO.ite ?_ ?_)
      | (with_reducible refine LeO.bind ?_ (fun _ => ?_))
      | exact ih0 _ _ _ _
      | exact LeO.none _
      | refine LeO.ite ?_ ?_
      | refine LeO.bind ?_ (fun _ => ?_)
theorem laws_FnAbsAlone.mono : ∀ a0 a1 a2 k, LeO (laws_FnAbsAlone.f k a0 a1 a2) (laws_FnAbsAlone.f (k + 1) a0 a1 a2) := by
  intro a0 a1 a2 k
  have ih0 := laws_FnAbsAlone.mono_l k
  unfold laws_FnAbsAlone.f
  repeat' first
      | (with_reducible exact ih0 _ _ _ _)
      | (with_reducible exact LeO.refl _)
      | (with_reducible exact LeO.none _)
      | (with_reducible refine LeO.ite ?_ ?_)
      | (with_reducible refine LeO.bind ?_ (fun _ => ?_))
      | exact ih0 _ _ _ _
      | exact LeO.none _
      | refine LeO.ite ?_ ?_
      | refine LeO.bind ?_ (fun _ => ?_)
set_option maxHeartbeats 8000000 in
set_option maxRecDepth 100000 in
theorem laws_FnAbsAlone.calls (k : Nat) (a0 : ByteArray) (a1 : ByteArray) (a2 : ByteArray) (r : Bool) (w : World) (h : laws_FnAbsAlone.f k a0 a1 a2 = some r) :
    Calls Try.prog 7 #[.string a0, .string a1, .string a2] w fun e w' => e = .returned (.bool r) ∧ Below w.heap.size w w' := by
  have HB := Aside0.mk (Below.refl w.heap.size w)
  have H : (if (a0.size : Int) > 2147483647 then (laws_FnAbsAlone.j0 k a0 a1 a2 true) else (if (a1.size : Int) > 2147483647 then (laws_FnAbsAlone.j0 k a0 a1 a2 true) else (laws_FnAbsAlone.j0 k a0 a1 a2 (decide ((a2.size : Int) > 2147483647))))) = some r := h
  clear h
  have HC4 := Aside0.mk H
  clear H
  go_enter Try.func7, Try.ntmps7
  go_upto_region 1 with (fail)
  go_cut [19] (fun v19 wc => ∃ (kq : Nat) (x19_3 : Bool), v19 = .bool x19_3 ∧ Aside0 (laws_FnAbsAlone.j0 kq a0 a1 a2 x19_3 = some r) ∧ Aside0 (kq ≤ k) ∧ Aside0 (Below w.heap.size w wc))
  case first =>
    have H := HC4.out
    clear HC4
    by_cases c5 : (a0.size : Int) > 2147483647
    · rw [if_pos c5] at H
      have c5b0 : decide (2147483647 < (a0.size : Int)) = true := decide_eq_true c5
      have c5b1 : decide (2147483647 < a0.size) = true := decide_eq_true (by omega)
      clear c5
      (first | rw [c5b0] | (simp only [i64_w, i32_w]; rw [c5b0]) | skip)
      have H' := Aside0.mk H
      clear H
      go_wp2
      go_meet
      case rel => exact ⟨_, (true), (by first | rfl | (simp; done) | (simp [*]; done)), H', ⟨by first | omega | exact Nat.le_refl _⟩, ⟨by repeat (first | (with_reducible first | exact HB.out | apply below_alloc | apply pw_below_drewN | apply below_drew1) | exact HB.out)⟩⟩
    · rw [if_neg c5] at H
      have c5b0 : decide (2147483647 < (a0.size : Int)) = false := decide_eq_false c5
      have c5b1 : decide (2147483647 < a0.size) = false := decide_eq_false (by omega)
      clear c5
      (first | rw [c5b0] | (simp only [i64_w, i32_w]; rw [c5b0]) | skip)
      by_cases c6 : (a1.size : Int) > 2147483647
      · rw [if_pos c6] at H
        have c6b0 : decide (2147483647 < (a1.size : Int)) = true := decide_eq_true c6
        have c6b1 : decide (2147483647 < a1.size) = true := decide_eq_true (by omega)
        clear c6
        have H' := Aside0.mk H
        clear H
        go_wp2
        go_meet
        case rel => exact ⟨_, (true), (by first | rfl | (simp; done) | (simp [*]; done)), H', ⟨by first | omega | exact Nat.le_refl _⟩, ⟨by repeat (first | (with_reducible first | exact HB.out | apply below_alloc | apply pw_below_drewN | apply below_drew1) | exact HB.out)⟩⟩
      · rw [if_neg c6] at H
        have c6b0 : decide (2147483647 < (a1.size : Int)) = false := decide_eq_false c6
        have c6b1 : decide (2147483647 < a1.size) = false := decide_eq_false (by omega)
        clear c6
        have H' := Aside0.mk H
        clear H
        go_wp2
        go_meet
        case rel => exact ⟨_, (decide ((a2.size : Int) > 2147483647)), (by first | rfl | (simp; done) | (simp [*]; done)), H', ⟨by first | omega | exact Nat.le_refl _⟩, ⟨by repeat (first | (with_reducible first | exact HB.out | apply below_alloc | apply pw_below_drewN | apply below_drew1) | exact HB.out)⟩⟩
  case rest =>
    clear HC4
    try clear p2
    try clear c5
    try clear c5b0
    try clear c5b1
    try clear c6
    try clear c6b0
    try clear c6b1
    obtain ⟨kq, x19_3, rfl, HA, HJ3, HB⟩ := hcut
    cases kq with
    | zero => exact absurd HA.out (by simp [laws_FnAbsAlone.j0])
    | succ kj3 =>
      have H := HA.out
      clear HA
      simp only [laws_FnAbsAlone.j0] at H
      by_cases c7 : x19_3 = true
      · subst c7
        have H1 : (some true) = some r := by rw [if_pos rfl] at H; exact H
        clear H
        have H := H1
        clear H1
        obtain rfl := Option.some.inj H
        go_wp2
        go_ret
        exact ⟨by first | rfl | (simp [errW_none, errW_some] <;> rfl) | (simp [*, errW_none, errW_some] <;> rfl), by repeat (first | (with_reducible first | exact HB.out | apply below_alloc | apply pw_below_drewN | apply below_drew1) | exact HB.out)⟩
      · replace c7 := Bool.eq_false_iff.mpr c7
        subst c7
        have H1 : ((impl_AbsPathify.f (⟨#[47, 97]⟩ : ByteArray) (⟨#[98]⟩ : ByteArray)).bind fun t110 => (if t110.toList = ([47, 97, 47, 98] : List UInt8) then (if (wrap64 ((wrap64 ((a0.size : Int) + (a1.size : Int))) + (a2.size : Int))) > 65536 then (some true) else (if 1 + a2.size ≤ 9223372036854775807 then ((impl_AbsPathify.f a0 ((⟨#[47]⟩ : ByteArray) ++ a2)).bind fun t111 => ((impl_AbsPathify.f a1 ((⟨#[47]⟩ : ByteArray) ++ a2)).bind fun t112 => (if t111.toList = t112.toList then (if 1 + a0.size ≤ 9223372036854775807 then ((impl_AbsPathify.f ((⟨#[47]⟩ : ByteArray) ++ a0) ((⟨#[120]⟩ : ByteArray) ++ a2)).bind fun t113 => (if ((⟨#[47]⟩ : ByteArray) ++ a0).size + 2 ≤ 9223372036854775807 then (if (((⟨#[47]⟩ : ByteArray) ++ a0) ++ (⟨#[47, 120]⟩ : ByteArray)).size + a2.size ≤ 9223372036854775807 then ((impl_AbsPathify.f (⟨#[]⟩ : ByteArray) ((((⟨#[47]⟩ : ByteArray) ++ a0) ++ (⟨#[47, 120]⟩ : ByteArray)) ++ a2)).bind fun t114 => (some (t113.toList == t114.toList))) else (none)) else (none))) else (none)) else (some false)))) else (none))) else (some false))) = some r := by rw [if_neg (show ¬ (false = true) by decide)] at H; exact H
        clear H
        have H := H1
        clear H1
        replace H := Option.bind_eq_some_iff.mp H
        obtain ⟨t110, A80, H⟩ := H
        replace H : (if t110.toList = ([47, 97, 47, 98] : List UInt8) then (if (wrap64 ((wrap64 ((a0.size : Int) + (a1.size : Int))) + (a2.size : Int))) > 65536 then (some true) else (if 1 + a2.size ≤ 9223372036854775807 then ((impl_AbsPathify.f a0 ((⟨#[47]⟩ : ByteArray) ++ a2)).bind fun t111 => ((impl_AbsPathify.f a1 ((⟨#[47]⟩ : ByteArray) ++ a2)).bind fun t112 => (if t111.toList = t112.toList then (if 1 + a0.size ≤ 9223372036854775807 then ((impl_AbsPathify.f ((⟨#[47]⟩ : ByteArray) ++ a0) ((⟨#[120]⟩ : ByteArray) ++ a2)).bind fun t113 => (if ((⟨#[47]⟩ : ByteArray) ++ a0).size + 2 ≤ 9223372036854775807 then (if (((⟨#[47]⟩ : ByteArray) ++ a0) ++ (⟨#[47, 120]⟩ : ByteArray)).size + a2.size ≤ 9223372036854775807 then ((impl_AbsPathify.f (⟨#[]⟩ : ByteArray) ((((⟨#[47]⟩ : ByteArray) ++ a0) ++ (⟨#[47, 120]⟩ : ByteArray)) ++ a2)).bind fun t114 => (some (t113.toList == t114.toList))) else (none)) else (none))) else (none)) else (some false)))) else (none))) else (some false)) = some r := H
        have A8 := Aside0.mk A80
        clear A80
        by_cases c9 : t110.toList = ([47, 97, 47, 98] : List UInt8)
        · rw [if_pos c9] at H
          have c9b0 : (t110.toList == ([47, 97, 47, 98] : List UInt8)) = true := beq_iff_eq.mpr c9
          have c9b1 : (t110.toList != ([47, 97, 47, 98] : List UInt8)) = false := bne_eq_false_iff_eq.mpr c9
          clear c9
          by_cases c10 : (wrap64 ((wrap64 ((a0.size : Int) + (a1.size : Int))) + (a2.size : Int))) > 65536
          · rw [if_pos c10] at H
            have c10b0 : decide (65536 < (wrap64 ((wrap64 ((a0.size : Int) + (a1.size : Int))) + (a2.size : Int)))) = true := decide_eq_true c10
            clear c10
            obtain rfl := Option.some.inj H
            go_wp2_with (first | ((with_reducible refine gate_callee (f := 31) rfl ?_); refine goesL_ (some 20) rfl rfl Try.func31 (by kernel_rfl) rfl #[.string (⟨#[47, 97]⟩ : ByteArray), .string (⟨#[98]⟩ : ByteArray)] rfl (by (try simp only [List.map_toArray, List.map_cons, List.map_nil]); first | done | rfl | (simp only [List.length_drop, List.length_take]; rfl)) ?_; (with_reducible refine (impl_AbsPathify.calls (⟨#[47, 97]⟩ : ByteArray) (⟨#[98]⟩ : ByteArray) t110 _ A8.out).mono ?_); rintro e w11 ⟨rfl, hb⟩; refine ⟨_, rfl, ?_⟩; have n0_ := Aside0.mk (below_step (by repeat (first | (with_reducible first | exact HB.out | apply below_alloc | apply pw_below_drewN | apply below_drew1) | exact HB.out)) hb); clear HB; have HB := n0_; clear n0_; (try clear hb); (try clear hb2); (try clear hk); (try clear hi)))
            go_ret
            exact ⟨by first | rfl | (simp [errW_none, errW_some] <;> rfl) | (simp [*, errW_none, errW_some] <;> rfl), by repeat (first | (with_reducible first | exact HB.out | apply below_alloc | apply pw_below_drewN | apply below_drew1) | exact HB.out)⟩
          · rw [if_neg c10] at H
            have c10b0 : decide (65536 < (wrap64 ((wrap64 ((a0.size : Int) + (a1.size : Int))) + (a2.size : Int)))) = false := decide_eq_false c10
            clear c10
            by_cases c12 : 1 + a2.size ≤ 9223372036854775807
            · rw [if_pos c12] at H
              have c12b0 := eq_true c12
              have c12b1 : decide (1 + a2.size ≤ 9223372036854775807) = true := decide_eq_true c12
              try have c12b2 : (9223372036854775807 < 1 + a2.size) = False := eq_false (Nat.not_lt.2 c12)
              replace H := Option.bind_eq_some_iff.mp H
              obtain ⟨t111, A130, H⟩ := H
              replace H : ((impl_AbsPathify.f a1 ((⟨#[47]⟩ : ByteArray) ++ a2)).bind fun t112 => (if t111.toList = t112.toList then (if 1 + a0.size ≤ 9223372036854775807 then ((impl_AbsPathify.f ((⟨#[47]⟩ : ByteArray) ++ a0) ((⟨#[120]⟩ : ByteArray) ++ a2)).bind fun t113 => (if ((⟨#[47]⟩ : ByteArray) ++ a0).size + 2 ≤ 9223372036854775807 then (if (((⟨#[47]⟩ : ByteArray) ++ a0) ++ (⟨#[47, 120]⟩ : ByteArray)).size + a2.size ≤ 9223372036854775807 then ((impl_AbsPathify.f (⟨#[]⟩ : ByteArray) ((((⟨#[47]⟩ : ByteArray) ++ a0) ++ (⟨#[47, 120]⟩ : ByteArray)) ++ a2)).bind fun t114 => (some (t113.toList == t114.toList))) else (none)) else (none))) else (none)) else (some false))) = some r := H
              have A13 := Aside0.mk A130
              clear A130
              replace H := Option.bind_eq_some_iff.mp H
              obtain ⟨t112, A140, H⟩ := H
              replace H : (if t111.toList = t112.toList then (if 1 + a0.size ≤ 9223372036854775807 then ((impl_AbsPathify.f ((⟨#[47]⟩ : ByteArray) ++ a0) ((⟨#[120]⟩ : ByteArray) ++ a2)).bind fun t113 => (if ((⟨#[47]⟩ : ByteArray) ++ a0).size + 2 ≤ 9223372036854775807 then (if (((⟨#[47]⟩ : ByteArray) ++ a0) ++ (⟨#[47, 120]⟩ : ByteArray)).size + a2.size ≤ 9223372036854775807 then ((impl_AbsPathify.f (⟨#[]⟩ : ByteArray) ((((⟨#[47]⟩ : ByteArray) ++ a0) ++ (⟨#[47, 120]⟩ : ByteArray)) ++ a2)).bind fun t114 => (some (t113.toList == t114.toList))) else (none)) else (none))) else (none)) else (some false)) = some r := H
              have A14 := Aside0.mk A140
              clear A140
              by_cases c15 : t111.toList = t112.toList
              · rw [if_pos c15] at H
                have c15b0 : (t111.toList == t112.toList) = true := beq_iff_eq.mpr c15
                have c15b1 : (t111.toList != t112.toList) = false := bne_eq_false_iff_eq.mpr c15
                clear c15
                by_cases c16 : 1 + a0.size ≤ 9223372036854775807
                · rw [if_pos c16] at H
                  have c16b0 := eq_true c16
                  have c16b1 : decide (1 + a0.size ≤ 9223372036854775807) = true := decide_eq_true c16
                  try have c16b2 : (9223372036854775807 < 1 + a0.size) = False := eq_false (Nat.not_lt.2 c16)
                  replace H := Option.bind_eq_some_iff.mp H
                  obtain ⟨t113, A170, H⟩ := H
                  replace H : (if ((⟨#[47]⟩ : ByteArray) ++ a0).size + 2 ≤ 9223372036854775807 then (if (((⟨#[47]⟩ : ByteArray) ++ a0) ++ (⟨#[47, 120]⟩ : ByteArray)).size + a2.size ≤ 9223372036854775807 then ((impl_AbsPathify.f (⟨#[]⟩ : ByteArray) ((((⟨#[47]⟩ : ByteArray) ++ a0) ++ (⟨#[47, 120]⟩ : ByteArray)) ++ a2)).bind fun t114 => (some (t113.toList == t114.toList))) else (none)) else (none)) = some r := H
                  have A17 := Aside0.mk A170
                  clear A170
                  by_cases c18 : ((⟨#[47]⟩ : ByteArray) ++ a0).size + 2 ≤ 9223372036854775807
                  · rw [if_pos c18] at H
                    have c18b0 := eq_true c18
                    have c18b1 : decide (((⟨#[47]⟩ : ByteArray) ++ a0).size + 2 ≤ 9223372036854775807) = true := decide_eq_true c18
                    try have c18b2 : (9223372036854775807 < ((⟨#[47]⟩ : ByteArray) ++ a0).size + 2) = False := eq_false (Nat.not_lt.2 c18)
                    try (have c18n := c18; simp only [ByteArray.size_append, ByteArray.size, List.size_toArray, List.length_cons, List.length_nil, Nat.zero_add, Nat.reduceAdd] at c18n; simp at c18n; have c18n0 := eq_true c18n; have c18n1 := eq_false (Nat.not_lt.2 c18n); have c18n2 := decide_eq_true c18n)
                    by_cases c19 : (((⟨#[47]⟩ : ByteArray) ++ a0) ++ (⟨#[47, 120]⟩ : ByteArray)).size + a2.size ≤ 9223372036854775807
                    · rw [if_pos c19] at H
                      have c19b0 := eq_true c19
                      have c19b1 : decide ((((⟨#[47]⟩ : ByteArray) ++ a0) ++ (⟨#[47, 120]⟩ : ByteArray)).size + a2.size ≤ 9223372036854775807) = true := decide_eq_true c19
                      try have c19b2 : (9223372036854775807 < (((⟨#[47]⟩ : ByteArray) ++ a0) ++ (⟨#[47, 120]⟩ : ByteArray)).size + a2.size) = False := eq_false (Nat.not_lt.2 c19)
                      try (have c19n := c19; simp only [ByteArray.size_append, ByteArray.size, List.size_toArray, List.length_cons, List.length_nil, Nat.zero_add, Nat.reduceAdd] at c19n; simp at c19n; have c19n0 := eq_true c19n; have c19n1 := eq_false (Nat.not_lt.2 c19n); have c19n2 := decide_eq_true c19n)
                      replace H := Option.bind_eq_some_iff.mp H
                      obtain ⟨t114, A200, H⟩ := H
                      replace H : (some (t113.toList == t114.toList)) = some r := H
                      have A20 := Aside0.mk A200
                      clear A200
                      obtain rfl := Option.some.inj H
                      go_wp2_with (first | ((with_reducible refine gate_callee (f := 31) rfl ?_); refine goesL_ (some 20) rfl rfl Try.func31 (by kernel_rfl) rfl #[.string (⟨#[47, 97]⟩ : ByteArray), .string (⟨#[98]⟩ : ByteArray)] rfl (by (try simp only [List.map_toArray, List.map_cons, List.map_nil]); first | done | rfl | (simp only [List.length_drop, List.length_take]; rfl)) ?_; (with_reducible refine (impl_AbsPathify.calls (⟨#[47, 97]⟩ : ByteArray) (⟨#[98]⟩ : ByteArray) t110 _ A8.out).mono ?_); rintro e w21 ⟨rfl, hb⟩; refine ⟨_, rfl, ?_⟩; have n0_ := Aside0.mk (below_step (by repeat (first | (with_reducible first | exact HB.out | apply below_alloc | apply pw_below_drewN | apply below_drew1) | exact HB.out)) hb); clear HB; have HB := n0_; clear n0_; (try clear hb); (try clear hb2); (try clear hk); (try clear hi)) | ((with_reducible refine gate_callee (f := 31) rfl ?_); refine goesL_ (some 34) rfl rfl Try.func31 (by kernel_rfl) rfl #[.string a0, .string ((⟨#[47]⟩ : ByteArray) ++ a2)] rfl (by (try simp only [List.map_toArray, List.map_cons, List.map_nil]); first | done | rfl | (simp only [List.length_drop, List.length_take]; rfl)) ?_; (with_reducible refine (impl_AbsPathify.calls a0 ((⟨#[47]⟩ : ByteArray) ++ a2) t111 _ A13.out).mono ?_); rintro e w22 ⟨rfl, hb⟩; refine ⟨_, rfl, ?_⟩; have n0_ := Aside0.mk (below_step (by repeat (first | (with_reducible first | exact HB.out | apply below_alloc | apply pw_below_drewN | apply below_drew1) | exact HB.out)) hb); clear HB; have HB := n0_; clear n0_; (try clear hb); (try clear hb2); (try clear hk); (try clear hi)) | ((with_reducible refine gate_callee (f := 31) rfl ?_); refine goesL_ (some 38) rfl rfl Try.func31 (by kernel_rfl) rfl #[.string a1, .string ((⟨#[47]⟩ : ByteArray) ++ a2)] rfl (by (try simp only [List.map_toArray, List.map_cons, List.map_nil]); first | done | rfl | (simp only [List.length_drop, List.length_take]; rfl)) ?_; (with_reducible refine (impl_AbsPathify.calls a1 ((⟨#[47]⟩ : ByteArray) ++ a2) t112 _ A14.out).mono ?_); rintro e w23 ⟨rfl, hb⟩; refine ⟨_, rfl, ?_⟩; have n0_ := Aside0.mk (below_step (by repeat (first | (with_reducible first | exact HB.out | apply below_alloc | apply pw_below_drewN | apply below_drew1) | exact HB.out)) hb); clear HB; have HB := n0_; clear n0_; (try clear hb); (try clear hb2); (try clear hk); (try clear hi)) | (go_at_call 31; (with_reducible refine (impl_AbsPathify.calls ((⟨#[47]⟩ : ByteArray) ++ a0) ((⟨#[120]⟩ : ByteArray) ++ a2) t113 _ A17.out).mono ?_); rintro e w24 ⟨rfl, hb⟩; have n0_ := Aside0.mk (below_step (by repeat (first | (with_reducible first | exact HB.out | apply below_alloc | apply pw_below_drewN | apply below_drew1) | exact HB.out)) hb); clear HB; have HB := n0_; clear n0_; (try clear hb); (try clear hb2); (try clear hk); (try clear hi)) | (go_at_call 31; (with_reducible refine (impl_AbsPathify.calls (⟨#[]⟩ : ByteArray) ((((⟨#[47]⟩ : ByteArray) ++ a0) ++ (⟨#[47, 120]⟩ : ByteArray)) ++ a2) t114 _ A20.out).mono ?_); rintro e w25 ⟨rfl, hb⟩; have n0_ := Aside0.mk (below_step (by repeat (first | (with_reducible first | exact HB.out | apply below_alloc | apply pw_below_drewN | apply below_drew1) | exact HB.out)) hb); clear HB; have HB := n0_; clear n0_; (try clear hb); (try clear hb2); (try clear hk); (try clear hi)))
                      go_ret
                      exact ⟨by first | rfl | (simp [errW_none, errW_some] <;> rfl) | (simp [*, errW_none, errW_some] <;> rfl), by repeat (first | (with_reducible first | exact HB.out | apply below_alloc | apply pw_below_drewN | apply below_drew1) | exact HB.out)⟩
                    · rw [if_neg c19] at H
                      exact absurd H (by simp)
                  · rw [if_neg c18] at H
                    exact absurd H (by simp)
                · rw [if_neg c16] at H
                  exact absurd H (by simp)
              · rw [if_neg c15] at H
                have c15b0 : (t111.toList == t112.toList) = false := beq_eq_false_iff_ne.mpr c15
                have c15b1 : (t111.toList != t112.toList) = true := bne_iff_ne.mpr c15
                obtain rfl := Option.some.inj H
                go_wp2_with (first | ((with_reducible refine gate_callee (f := 31) rfl ?_); refine goesL_ (some 20) rfl rfl Try.func31 (by kernel_rfl) rfl #[.string (⟨#[47, 97]⟩ : ByteArray), .string (⟨#[98]⟩ : ByteArray)] rfl (by (try simp only [List.map_toArray, List.map_cons, List.map_nil]); first | done | rfl | (simp only [List.length_drop, List.length_take]; rfl)) ?_; (with_reducible refine (impl_AbsPathify.calls (⟨#[47, 97]⟩ : ByteArray) (⟨#[98]⟩ : ByteArray) t110 _ A8.out).mono ?_); rintro e w26 ⟨rfl, hb⟩; refine ⟨_, rfl, ?_⟩; have n0_ := Aside0.mk (below_step (by repeat (first | (with_reducible first | exact HB.out | apply below_alloc | apply pw_below_drewN | apply below_drew1) | exact HB.out)) hb); clear HB; have HB := n0_; clear n0_; (try clear hb); (try clear hb2); (try clear hk); (try clear hi)) | ((with_reducible refine gate_callee (f := 31) rfl ?_); refine goesL_ (some 34) rfl rfl Try.func31 (by kernel_rfl) rfl #[.string a0, .string ((⟨#[47]⟩ : ByteArray) ++ a2)] rfl (by (try simp only [List.map_toArray, List.map_cons, List.map_nil]); first | done | rfl | (simp only [List.length_drop, List.length_take]; rfl)) ?_; (with_reducible refine (impl_AbsPathify.calls a0 ((⟨#[47]⟩ : ByteArray) ++ a2) t111 _ A13.out).mono ?_); rintro e w27 ⟨rfl, hb⟩; refine ⟨_, rfl, ?_⟩; have n0_ := Aside0.mk (below_step (by repeat (first | (with_reducible first | exact HB.out | apply below_alloc | apply pw_below_drewN | apply below_drew1) | exact HB.out)) hb); clear HB; have HB := n0_; clear n0_; (try clear hb); (try clear hb2); (try clear hk); (try clear hi)) | ((with_reducible refine gate_callee (f := 31) rfl ?_); refine goesL_ (some 38) rfl rfl Try.func31 (by kernel_rfl) rfl #[.string a1, .string ((⟨#[47]⟩ : ByteArray) ++ a2)] rfl (by (try simp only [List.map_toArray, List.map_cons, List.map_nil]); first | done | rfl | (simp only [List.length_drop, List.length_take]; rfl)) ?_; (with_reducible refine (impl_AbsPathify.calls a1 ((⟨#[47]⟩ : ByteArray) ++ a2) t112 _ A14.out).mono ?_); rintro e w28 ⟨rfl, hb⟩; refine ⟨_, rfl, ?_⟩; have n0_ := Aside0.mk (below_step (by repeat (first | (with_reducible first | exact HB.out | apply below_alloc | apply pw_below_drewN | apply below_drew1) | exact HB.out)) hb); clear HB; have HB := n0_; clear n0_; (try clear hb); (try clear hb2); (try clear hk); (try clear hi)))
                go_ret
                exact ⟨by first | rfl | (simp [errW_none, errW_some] <;> rfl) | (simp [*, errW_none, errW_some] <;> rfl), by repeat (first | (with_reducible first | exact HB.out | apply below_alloc | apply pw_below_drewN | apply below_drew1) | exact HB.out)⟩
            · rw [if_neg c12] at H
              exact absurd H (by simp)
        · rw [if_neg c9] at H
          have c9b0 : (t110.toList == ([47, 97, 47, 98] : List UInt8)) = false := beq_eq_false_iff_ne.mpr c9
          have c9b1 : (t110.toList != ([47, 97, 47, 98] : List UInt8)) = true := bne_iff_ne.mpr c9
          obtain rfl := Option.some.inj H
          go_wp2_with (first | ((with_reducible refine gate_callee (f := 31) rfl ?_); refine goesL_ (some 20) rfl rfl Try.func31 (by kernel_rfl) rfl #[.string (⟨#[47, 97]⟩ : ByteArray), .string (⟨#[98]⟩ : ByteArray)] rfl (by (try simp only [List.map_toArray, List.map_cons, List.map_nil]); first | done | rfl | (simp only [List.length_drop, List.length_take]; rfl)) ?_; (with_reducible refine (impl_AbsPathify.calls (⟨#[47, 97]⟩ : ByteArray) (⟨#[98]⟩ : ByteArray) t110 _ A8.out).mono ?_); rintro e w29 ⟨rfl, hb⟩; refine ⟨_, rfl, ?_⟩; have n0_ := Aside0.mk (below_step (by repeat (first | (with_reducible first | exact HB.out | apply below_alloc | apply pw_below_drewN | apply below_drew1) | exact HB.out)) hb); clear HB; have HB := n0_; clear n0_; (try clear hb); (try clear hb2); (try clear hk); (try clear hi)))
          go_ret
          exact ⟨by first | rfl | (simp [errW_none, errW_some] <;> rfl) | (simp [*, errW_none, errW_some] <;> rfl), by repeat (first | (with_reducible first | exact HB.out | apply below_alloc | apply pw_below_drewN | apply below_drew1) | exact HB.out)⟩

/-- THE ONE PURE STATEMENT of laws_FnAbsAlone: yours. -/
def laws_FnAbsAlone.Pure : Prop := ∀ (a0 : ByteArray) (a1 : ByteArray) (a2 : ByteArray), a0.size ≤ 140737488351232 → a1.size ≤ 140737488351232 → a2.size ≤ 140737488351232 → ∃ k, laws_FnAbsAlone.f k a0 a1 a2 = some true
theorem laws_FnAbsAlone.walk (P : laws_FnAbsAlone.Pure) (a0 : ByteArray) (a1 : ByteArray) (a2 : ByteArray) (w : World) (w0 : a0.size ≤ 140737488351232) (w1 : a1.size ≤ 140737488351232) (w2 : a2.size ≤ 140737488351232) :
    Calls Try.prog 7 #[.string a0, .string a1, .string a2] w fun e w' => e = .returned (.bool true) ∧ Below w.heap.size w w' := by
  obtain ⟨k, h⟩ := P a0 a1 a2 w0 w1 w2
  refine (laws_FnAbsAlone.calls k a0 a1 a2 true w h).mono ?_
  rintro e w' ⟨rfl, hd⟩
  exact ⟨rfl, hd⟩

end Go.Proofs.Ytckfbpgjegbmlaa.PFnAbsAlone
