/- Printed by a program of this session (a printer turned to take contracts that were proved by hand): functions with the answers of the Go functions, and proofs that the code comes to these answers; no condition beyond what each theorem names. -/
import Derived.Test.YtgcadmofjblaeaaDoorPFnNamesx0
namespace Go.Proofs.YtgcadmofjblaeaaDoor.PFnNames
open Go.RowKit Go.Proofs.YtgcadmofjblaeaaDoorW.PrintWords Go.Proofs.YtgcadmofjblaeaaDoorW.PrintLast Go.Proofs.YtgcadmofjblaeaaDoorW.PrintMore
attribute [local go_sem] max2_int min2_int max_two min_two max_three min_three max_four min_four   -- for this text's walks alone
set_option linter.unusedVariables false
set_option linter.unusedSimpArgs false

/-! ### impl_Ext: function 6 -/
def impl_Ext.f (a0 : ByteArray) : Option (ByteArray) := (paths_Ext.f a0).bind fun t101 => (some t101)
set_option maxHeartbeats 8000000 in
set_option maxRecDepth 100000 in
theorem impl_Ext.calls (a0 : ByteArray) (r : ByteArray) (w : World) (h : impl_Ext.f a0 = some r) :
    Calls Tryd.prog 6 #[.string a0] w fun e w' => e = .returned (.string r) ∧ Below w.heap.size w w' := by
  have HB := Aside0.mk (Below.refl w.heap.size w)
  have H : ((paths_Ext.f a0).bind fun t101 => (some t101)) = some r := h
  clear h
  replace H := Option.bind_eq_some_iff.mp H
  obtain ⟨t101, A20, H⟩ := H
  replace H : (some t101) = some r := H
  have A2 := Aside0.mk A20
  clear A20
  obtain rfl := Option.some.inj H
  go_enter Tryd.func6, Tryd.ntmps6
  go_wp2_with (first | ((with_reducible refine gate_callee (f := 21) rfl ?_); refine goesL_ (some 4) rfl rfl Tryd.func21 (by kernel_rfl) rfl #[.string a0] rfl (by (try simp only [List.map_toArray, List.map_cons, List.map_nil]); first | done | rfl | (simp only [List.length_drop, List.length_take]; rfl)) ?_; (with_reducible refine (paths_Ext.calls a0 t101 _ A2.out).mono ?_); rintro e w3 ⟨rfl, hb⟩; refine ⟨_, rfl, ?_⟩; have n0_ := Aside0.mk (below_step (by repeat (first | (with_reducible first | exact HB.out | apply below_alloc | apply pw_below_drewN | apply below_drew1) | exact HB.out)) hb); clear HB; have HB := n0_; clear n0_; (try clear hb); (try clear hb2); (try clear hk); (try clear hi)))
  go_ret
  exact ⟨by first | rfl | (simp [errW_none, errW_some] <;> rfl) | (simp [*, errW_none, errW_some] <;> rfl), by repeat (first | (with_reducible first | exact HB.out | apply below_alloc | apply pw_below_drewN | apply below_drew1) | exact HB.out)⟩

/-! ### stringslite_HasPrefix: function 33 -/
def stringslite_HasPrefix.f (a0 : ByteArray) (a1 : ByteArray) : Option (Bool) := if (a0.size : Int) ≥ (a1.size : Int) then (if 0 ≤ (a1.size : Int) then (if (a1.size : Int) ≤ (a0.size : Int) then (some ((a0.extract 0 ((a1.size : Int) : Int).toNat).toList == a1.toList)) else (none)) else (none)) else (some false)
set_option maxHeartbeats 8000000 in
set_option maxRecDepth 100000 in
theorem stringslite_HasPrefix.calls (a0 : ByteArray) (a1 : ByteArray) (r : Bool) (w : World) (h : stringslite_HasPrefix.f a0 a1 = some r) :
    Calls Tryd.prog 33 #[.string a0, .string a1] w fun e w' => e = .returned (.bool r) ∧ Drawn0 w w' := by
  have H : (if (a0.size : Int) ≥ (a1.size : Int) then (if 0 ≤ (a1.size : Int) then (if (a1.size : Int) ≤ (a0.size : Int) then (some ((a0.extract 0 ((a1.size : Int) : Int).toNat).toList == a1.toList)) else (none)) else (none)) else (some false)) = some r := h
  clear h
  by_cases c3 : (a0.size : Int) ≥ (a1.size : Int)
  · rw [if_pos c3] at H
    have c3b0 : decide ((a1.size : Int) ≤ (a0.size : Int)) = true := decide_eq_true c3
    have c3b1 : decide (a1.size ≤ a0.size) = true := decide_eq_true (Int.ofNat_le.mp c3)
    clear c3
    by_cases c4 : 0 ≤ (a1.size : Int)
    · rw [if_pos c4] at H
      have c4b0 := eq_true c4
      have c4b1 : decide (0 ≤ (a1.size : Int)) = true := decide_eq_true c4
      clear c4
      by_cases c5 : (a1.size : Int) ≤ (a0.size : Int)
      · rw [if_pos c5] at H
        have c5b0 := eq_true c5
        have c5b1 : decide ((a1.size : Int) ≤ (a0.size : Int)) = true := decide_eq_true c5
        clear c5
        obtain rfl := Option.some.inj H
        go_enter Tryd.func33, Tryd.ntmps33
        go_wp2
        go_ret
        exact ⟨by first | rfl | (simp; done) | (simp [*]; done), by repeat (first | exact Drawn0.refl _ | apply Drawn0.step)⟩
      · rw [if_neg c5] at H
        exact absurd H (by simp)
    · rw [if_neg c4] at H
      exact absurd H (by simp)
  · rw [if_neg c3] at H
    have c3b0 : decide ((a1.size : Int) ≤ (a0.size : Int)) = false := decide_eq_false c3
    have c3b1 : decide (a1.size ≤ a0.size) = false := decide_eq_false (fun h => c3 (Int.ofNat_le.mpr h))
    clear c3
    obtain rfl := Option.some.inj H
    go_enter Tryd.func33, Tryd.ntmps33
    go_wp2
    go_ret
    exact ⟨by first | rfl | (simp; done) | (simp [*]; done), by repeat (first | exact Drawn0.refl _ | apply Drawn0.step)⟩

/-! ### stringslite_TrimPrefix: function 31 -/
def stringslite_TrimPrefix.f (a0 : ByteArray) (a1 : ByteArray) : Option (ByteArray) := (stringslite_HasPrefix.f a0 a1).bind fun t102 => (if t102 = true then (if 0 ≤ (a1.size : Int) then (if (a1.size : Int) ≤ (a0.size : Int) then (some (a0.extract ((a1.size : Int) : Int).toNat a0.size)) else (none)) else (none)) else (some a0))
set_option maxHeartbeats 8000000 in
set_option maxRecDepth 100000 in
theorem stringslite_TrimPrefix.calls (a0 : ByteArray) (a1 : ByteArray) (r : ByteArray) (w : World) (h : stringslite_TrimPrefix.f a0 a1 = some r) :
    Calls Tryd.prog 31 #[.string a0, .string a1] w fun e w' => e = .returned (.string r) ∧ Drawn0 w w' := by
  have H : ((stringslite_HasPrefix.f a0 a1).bind fun t102 => (if t102 = true then (if 0 ≤ (a1.size : Int) then (if (a1.size : Int) ≤ (a0.size : Int) then (some (a0.extract ((a1.size : Int) : Int).toNat a0.size)) else (none)) else (none)) else (some a0))) = some r := h
  clear h
  replace H := Option.bind_eq_some_iff.mp H
  obtain ⟨t102, A30, H⟩ := H
  replace H : (if t102 = true then (if 0 ≤ (a1.size : Int) then (if (a1.size : Int) ≤ (a0.size : Int) then (some (a0.extract ((a1.size : Int) : Int).toNat a0.size)) else (none)) else (none)) else (some a0)) = some r := H
  have A3 := Aside0.mk A30
  clear A30
  by_cases c4 : t102 = true
  · subst c4
    have H1 : (if 0 ≤ (a1.size : Int) then (if (a1.size : Int) ≤ (a0.size : Int) then (some (a0.extract ((a1.size : Int) : Int).toNat a0.size)) else (none)) else (none)) = some r := by rw [if_pos rfl] at H; exact H
    clear H
    have H := H1
    clear H1
    by_cases c5 : 0 ≤ (a1.size : Int)
    · rw [if_pos c5] at H
      have c5b0 := eq_true c5
      have c5b1 : decide (0 ≤ (a1.size : Int)) = true := decide_eq_true c5
      clear c5
      by_cases c6 : (a1.size : Int) ≤ (a0.size : Int)
      · rw [if_pos c6] at H
        have c6b0 := eq_true c6
        have c6b1 : decide ((a1.size : Int) ≤ (a0.size : Int)) = true := decide_eq_true c6
        clear c6
        obtain rfl := Option.some.inj H
        go_enter Tryd.func31, Tryd.ntmps31
        go_wp2_with (first | ((with_reducible refine gate_callee (f := 33) rfl ?_); refine goesL_ (some 7) rfl rfl Tryd.func33 (by kernel_rfl) rfl #[.string a0, .string a1] rfl (by (try simp only [List.map_toArray, List.map_cons, List.map_nil]); first | done | rfl | (simp only [List.length_drop, List.length_take]; rfl)) ?_; (with_reducible refine (stringslite_HasPrefix.calls a0 a1 true _ A3.out).mono ?_); rintro e w' ⟨rfl, ⟨nd, rfl⟩⟩; refine ⟨_, rfl, ?_⟩))
        go_ret
        exact ⟨by first | rfl | (simp; done) | (simp [*]; done), by repeat (first | exact Drawn0.refl _ | apply Drawn0.step)⟩
      · rw [if_neg c6] at H
        exact absurd H (by simp)
    · rw [if_neg c5] at H
      exact absurd H (by simp)
  · replace c4 := Bool.eq_false_iff.mpr c4
    subst c4
    have H1 : (some a0) = some r := by rw [if_neg (show ¬ (false = true) by decide)] at H; exact H
    clear H
    have H := H1
    clear H1
    obtain rfl := Option.some.inj H
    go_enter Tryd.func31, Tryd.ntmps31
    go_wp2_with (first | ((with_reducible refine gate_callee (f := 33) rfl ?_); refine goesL_ (some 7) rfl rfl Tryd.func33 (by kernel_rfl) rfl #[.string a0, .string a1] rfl (by (try simp only [List.map_toArray, List.map_cons, List.map_nil]); first | done | rfl | (simp only [List.length_drop, List.length_take]; rfl)) ?_; (with_reducible refine (stringslite_HasPrefix.calls a0 a1 false _ A3.out).mono ?_); rintro e w' ⟨rfl, ⟨nd, rfl⟩⟩; refine ⟨_, rfl, ?_⟩))
    go_ret
    exact ⟨by first | rfl | (simp; done) | (simp [*]; done), by repeat (first | exact Drawn0.refl _ | apply Drawn0.step)⟩

/-! ### strings_TrimPrefix: function 29 -/
def strings_TrimPrefix.f (a0 : ByteArray) (a1 : ByteArray) : Option (ByteArray) := (stringslite_TrimPrefix.f a0 a1).bind fun t103 => (some t103)
set_option maxHeartbeats 8000000 in
set_option maxRecDepth 100000 in
theorem strings_TrimPrefix.calls (a0 : ByteArray) (a1 : ByteArray) (r : ByteArray) (w : World) (h : strings_TrimPrefix.f a0 a1 = some r) :
    Calls Tryd.prog 29 #[.string a0, .string a1] w fun e w' => e = .returned (.string r) ∧ Drawn0 w w' := by
  have H : ((stringslite_TrimPrefix.f a0 a1).bind fun t103 => (some t103)) = some r := h
  clear h
  replace H := Option.bind_eq_some_iff.mp H
  obtain ⟨t103, A30, H⟩ := H
  replace H : (some t103) = some r := H
  have A3 := Aside0.mk A30
  clear A30
  obtain rfl := Option.some.inj H
  go_enter Tryd.func29, Tryd.ntmps29
  go_wp2_with (first | ((with_reducible refine gate_callee (f := 31) rfl ?_); refine goesL_ (some 7) rfl rfl Tryd.func31 (by kernel_rfl) rfl #[.string a0, .string a1] rfl (by (try simp only [List.map_toArray, List.map_cons, List.map_nil]); first | done | rfl | (simp only [List.length_drop, List.length_take]; rfl)) ?_; (with_reducible refine (stringslite_TrimPrefix.calls a0 a1 t103 _ A3.out).mono ?_); rintro e w' ⟨rfl, ⟨nd, rfl⟩⟩; refine ⟨_, rfl, ?_⟩))
  go_ret
  exact ⟨by first | rfl | (simp; done) | (simp [*]; done), by repeat (first | exact Drawn0.refl _ | apply Drawn0.step)⟩

/-! ### paths_ExtNoDelimiter: function 22 -/
def paths_ExtNoDelimiter.f (a0 : ByteArray) : Option (ByteArray) := (paths_Ext.f a0).bind fun t104 => ((strings_TrimPrefix.f t104 (⟨#[46]⟩ : ByteArray)).bind fun t105 => (some t105))
set_option maxHeartbeats 8000000 in
set_option maxRecDepth 100000 in
theorem paths_ExtNoDelimiter.calls (a0 : ByteArray) (r : ByteArray) (w : World) (h : paths_ExtNoDelimiter.f a0 = some r) :
    Calls Tryd.prog 22 #[.string a0] w fun e w' => e = .returned (.string r) ∧ Below w.heap.size w w' := by
  have HB := Aside0.mk (Below.refl w.heap.size w)
  have H : ((paths_Ext.f a0).bind fun t104 => ((strings_TrimPrefix.f t104 (⟨#[46]⟩ : ByteArray)).bind fun t105 => (some t105))) = some r := h
  clear h
  replace H := Option.bind_eq_some_iff.mp H
  obtain ⟨t104, A20, H⟩ := H
  replace H : ((strings_TrimPrefix.f t104 (⟨#[46]⟩ : ByteArray)).bind fun t105 => (some t105)) = some r := H
  have A2 := Aside0.mk A20
  clear A20
  replace H := Option.bind_eq_some_iff.mp H
  obtain ⟨t105, A30, H⟩ := H
  replace H : (some t105) = some r := H
  have A3 := Aside0.mk A30
  clear A30
  obtain rfl := Option.some.inj H
  go_enter Tryd.func22, Tryd.ntmps22
  go_wp2_with (first | ((with_reducible refine gate_callee (f := 21) rfl ?_); refine goesL_ (some 4) rfl rfl Tryd.func21 (by kernel_rfl) rfl #[.string a0] rfl (by (try simp only [List.map_toArray, List.map_cons, List.map_nil]); first | done | rfl | (simp only [List.length_drop, List.length_take]; rfl)) ?_; (with_reducible refine (paths_Ext.calls a0 t104 _ A2.out).mono ?_); rintro e w4 ⟨rfl, hb⟩; refine ⟨_, rfl, ?_⟩; have n0_ := Aside0.mk (below_step (by repeat (first | (with_reducible first | exact HB.out | apply below_alloc | apply pw_below_drewN | apply below_drew1) | exact HB.out)) hb); clear HB; have HB := n0_; clear n0_; (try clear hb); (try clear hb2); (try clear hk); (try clear hi)) | ((with_reducible refine gate_callee (f := 29) rfl ?_); refine goesL_ (some 5) rfl rfl Tryd.func29 (by kernel_rfl) rfl #[.string t104, .string (⟨#[46]⟩ : ByteArray)] rfl (by (try simp only [List.map_toArray, List.map_cons, List.map_nil]); first | done | rfl | (simp only [List.length_drop, List.length_take]; rfl)) ?_; (with_reducible refine (strings_TrimPrefix.calls t104 (⟨#[46]⟩ : ByteArray) t105 _ A3.out).mono ?_); rintro e w' ⟨rfl, ⟨nd, rfl⟩⟩; refine ⟨_, rfl, ?_⟩))
  go_ret
  exact ⟨by first | rfl | (simp [errW_none, errW_some] <;> rfl) | (simp [*, errW_none, errW_some] <;> rfl), by repeat (first | (with_reducible first | exact HB.out | apply below_alloc | apply pw_below_drewN | apply below_drew1) | exact HB.out)⟩

/-! ### impl_ExtNoDelimiter: function 7 -/
def impl_ExtNoDelimiter.f (a0 : ByteArray) : Option (ByteArray) := (paths_ExtNoDelimiter.f a0).bind fun t106 => (some t106)
set_option maxHeartbeats 8000000 in
set_option maxRecDepth 100000 in
theorem impl_ExtNoDelimiter.calls (a0 : ByteArray) (r : ByteArray) (w : World) (h : impl_ExtNoDelimiter.f a0 = some r) :
    Calls Tryd.prog 7 #[.string a0] w fun e w' => e = .returned (.string r) ∧ Below w.heap.size w w' := by
  have HB := Aside0.mk (Below.refl w.heap.size w)
  have H : ((paths_ExtNoDelimiter.f a0).bind fun t106 => (some t106)) = some r := h
  clear h
  replace H := Option.bind_eq_some_iff.mp H
  obtain ⟨t106, A20, H⟩ := H
  replace H : (some t106) = some r := H
  have A2 := Aside0.mk A20
  clear A20
  obtain rfl := Option.some.inj H
  go_enter Tryd.func7, Tryd.ntmps7
  go_wp2_with (first | ((with_reducible refine gate_callee (f := 22) rfl ?_); refine goesL_ (some 4) rfl rfl Tryd.func22 (by kernel_rfl) rfl #[.string a0] rfl (by (try simp only [List.map_toArray, List.map_cons, List.map_nil]); first | done | rfl | (simp only [List.length_drop, List.length_take]; rfl)) ?_; (with_reducible refine (paths_ExtNoDelimiter.calls a0 t106 _ A2.out).mono ?_); rintro e w3 ⟨rfl, hb⟩; refine ⟨_, rfl, ?_⟩; have n0_ := Aside0.mk (below_step (by repeat (first | (with_reducible first | exact HB.out | apply below_alloc | apply pw_below_drewN | apply below_drew1) | exact HB.out)) hb); clear HB; have HB := n0_; clear n0_; (try clear hb); (try clear hb2); (try clear hk); (try clear hi)))
  go_ret
  exact ⟨by first | rfl | (simp [errW_none, errW_some] <;> rfl) | (simp [*, errW_none, errW_some] <;> rfl), by repeat (first | (with_reducible first | exact HB.out | apply below_alloc | apply pw_below_drewN | apply below_drew1) | exact HB.out)⟩

/-! ### impl_FileAndExt: function 8 -/
def impl_FileAndExt.f (a0 : ByteArray) : Option (ByteArray × ByteArray) := (paths_FileAndExt.f a0).bind fun bt107 => (some (bt107.1, bt107.2))
set_option maxHeartbeats 8000000 in
set_option maxRecDepth 100000 in
theorem impl_FileAndExt.calls (a0 : ByteArray) (r1 : ByteArray) (r2 : ByteArray) (w : World) (h : impl_FileAndExt.f a0 = some (r1, r2)) :
    Calls Tryd.prog 8 #[.string a0] w fun e w' => e = .returned (.tuple #[.string r1, .string r2]) ∧ Below w.heap.size w w' := by
  have HB := Aside0.mk (Below.refl w.heap.size w)
  have H : ((paths_FileAndExt.f a0).bind fun bt107 => (some (bt107.1, bt107.2))) = some (r1, r2) := h
  clear h
  replace H := Option.bind_eq_some_iff.mp H
  obtain ⟨⟨t107, t108⟩, A20, H⟩ := H
  replace H : (some (t107, t108)) = some (r1, r2) := H
  have A2 := Aside0.mk A20
  clear A20
  simp only [Option.some.injEq, Prod.mk.injEq] at H
  obtain ⟨rfl, rfl⟩ := H
  go_enter Tryd.func8, Tryd.ntmps8
  go_wp2_with (first | ((with_reducible refine gate_callee (f := 23) rfl ?_); refine goesL_ (some 5) rfl rfl Tryd.func23 (by kernel_rfl) rfl #[.string a0] rfl (by (try simp only [List.map_toArray, List.map_cons, List.map_nil]); first | done | rfl | (simp only [List.length_drop, List.length_take]; rfl)) ?_; (with_reducible refine (paths_FileAndExt.calls a0 t107 t108 _ A2.out).mono ?_); rintro e w3 ⟨rfl, hb⟩; refine ⟨_, rfl, ?_⟩; have n0_ := Aside0.mk (below_step (by repeat (first | (with_reducible first | exact HB.out | apply below_alloc | apply pw_below_drewN | apply below_drew1) | exact HB.out)) hb); clear HB; have HB := n0_; clear n0_; (try clear hb); (try clear hb2); (try clear hk); (try clear hi)))
  go_ret2
  exact ⟨by first | rfl | (simp [errW_none, errW_some] <;> rfl) | (simp [*, errW_none, errW_some] <;> rfl), by repeat (first | (with_reducible first | exact HB.out | apply below_alloc | apply pw_below_drewN | apply below_drew1) | exact HB.out)⟩

/-! ### impl_FileAndExtNoDelimiter: function 9 -/
def impl_FileAndExtNoDelimiter.f (a0 : ByteArray) : Option (ByteArray × ByteArray) := (paths_FileAndExtNoDelimiter.f a0).bind fun bt109 => (some (bt109.1, bt109.2))
set_option maxHeartbeats 8000000 in
set_option maxRecDepth 100000 in
theorem impl_FileAndExtNoDelimiter.calls (a0 : ByteArray) (r1 : ByteArray) (r2 : ByteArray) (w : World) (h : impl_FileAndExtNoDelimiter.f a0 = some (r1, r2)) :
    Calls Tryd.prog 9 #[.string a0] w fun e w' => e = .returned (.tuple #[.string r1, .string r2]) ∧ Below w.heap.size w w' := by
  have HB := Aside0.mk (Below.refl w.heap.size w)
  have H : ((paths_FileAndExtNoDelimiter.f a0).bind fun bt109 => (some (bt109.1, bt109.2))) = some (r1, r2) := h
  clear h
  replace H := Option.bind_eq_some_iff.mp H
  obtain ⟨⟨t109, t110⟩, A20, H⟩ := H
  replace H : (some (t109, t110)) = some (r1, r2) := H
  have A2 := Aside0.mk A20
  clear A20
  simp only [Option.some.injEq, Prod.mk.injEq] at H
  obtain ⟨rfl, rfl⟩ := H
  go_enter Tryd.func9, Tryd.ntmps9
  go_wp2_with (first | ((with_reducible refine gate_callee (f := 24) rfl ?_); refine goesL_ (some 5) rfl rfl Tryd.func24 (by kernel_rfl) rfl #[.string a0] rfl (by (try simp only [List.map_toArray, List.map_cons, List.map_nil]); first | done | rfl | (simp only [List.length_drop, List.length_take]; rfl)) ?_; (with_reducible refine (paths_FileAndExtNoDelimiter.calls a0 t109 t110 _ A2.out).mono ?_); rintro e w3 ⟨rfl, hb⟩; refine ⟨_, rfl, ?_⟩; have n0_ := Aside0.mk (below_step (by repeat (first | (with_reducible first | exact HB.out | apply below_alloc | apply pw_below_drewN | apply below_drew1) | exact HB.out)) hb); clear HB; have HB := n0_; clear n0_; (try clear hb); (try clear hb2); (try clear hk); (try clear hi)))
  go_ret2
  exact ⟨by first | rfl | (simp [errW_none, errW_some] <;> rfl) | (simp [*, errW_none, errW_some] <;> rfl), by repeat (first | (with_reducible first | exact HB.out | apply below_alloc | apply pw_below_drewN | apply below_drew1) | exact HB.out)⟩

/-! ### impl_PathAndExt: function 10 -/
def impl_PathAndExt.f (a0 : ByteArray) : Option (ByteArray × ByteArray) := (paths_PathAndExt.f a0).bind fun bt111 => (some (bt111.1, bt111.2))
set_option maxHeartbeats 8000000 in
set_option maxRecDepth 100000 in
theorem impl_PathAndExt.calls (a0 : ByteArray) (r1 : ByteArray) (r2 : ByteArray) (w : World) (h : impl_PathAndExt.f a0 = some (r1, r2)) :
    Calls Tryd.prog 10 #[.string a0] w fun e w' => e = .returned (.tuple #[.string r1, .string r2]) ∧ Below w.heap.size w w' := by
  have HB := Aside0.mk (Below.refl w.heap.size w)
  have H : ((paths_PathAndExt.f a0).bind fun bt111 => (some (bt111.1, bt111.2))) = some (r1, r2) := h
  clear h
  replace H := Option.bind_eq_some_iff.mp H
  obtain ⟨⟨t111, t112⟩, A20, H⟩ := H
  replace H : (some (t111, t112)) = some (r1, r2) := H
  have A2 := Aside0.mk A20
  clear A20
  simp only [Option.some.injEq, Prod.mk.injEq] at H
  obtain ⟨rfl, rfl⟩ := H
  go_enter Tryd.func10, Tryd.ntmps10
  go_wp2_with (first | ((with_reducible refine gate_callee (f := 25) rfl ?_); refine goesL_ (some 5) rfl rfl Tryd.func25 (by kernel_rfl) rfl #[.string a0] rfl (by (try simp only [List.map_toArray, List.map_cons, List.map_nil]); first | done | rfl | (simp only [List.length_drop, List.length_take]; rfl)) ?_; (with_reducible refine (paths_PathAndExt.calls a0 t111 t112 _ A2.out).mono ?_); rintro e w3 ⟨rfl, hb⟩; refine ⟨_, rfl, ?_⟩; have n0_ := Aside0.mk (below_step (by repeat (first | (with_reducible first | exact HB.out | apply below_alloc | apply pw_below_drewN | apply below_drew1) | exact HB.out)) hb); clear HB; have HB := n0_; clear n0_; (try clear hb); (try clear hb2); (try clear hk); (try clear hi)))
  go_ret2
  exact ⟨by first | rfl | (simp [errW_none, errW_some] <;> rfl) | (simp [*, errW_none, errW_some] <;> rfl), by repeat (first | (with_reducible first | exact HB.out | apply below_alloc | apply pw_below_drewN | apply below_drew1) | exact HB.out)⟩

/-! ### impl_Filename: function 13 -/
def impl_Filename.f (a0 : ByteArray) : Option (ByteArray) := (paths_Filename.f a0).bind fun t113 => (some t113)
set_option maxHeartbeats 8000000 in
set_option maxRecDepth 100000 in
theorem impl_Filename.calls (a0 : ByteArray) (r : ByteArray) (w : World) (h : impl_Filename.f a0 = some r) :
    Calls Tryd.prog 13 #[.string a0] w fun e w' => e = .returned (.string r) ∧ Below w.heap.size w w' := by
  have HB := Aside0.mk (Below.refl w.heap.size w)
  have H : ((paths_Filename.f a0).bind fun t113 => (some t113)) = some r := h
  clear h
  replace H := Option.bind_eq_some_iff.mp H
  obtain ⟨t113, A20, H⟩ := H
  replace H : (some t113) = some r := H
  have A2 := Aside0.mk A20
  clear A20
  obtain rfl := Option.some.inj H
  go_enter Tryd.func13, Tryd.ntmps13
  go_wp2_with (first | ((with_reducible refine gate_callee (f := 26) rfl ?_); refine goesL_ (some 4) rfl rfl Tryd.func26 (by kernel_rfl) rfl #[.string a0] rfl (by (try simp only [List.map_toArray, List.map_cons, List.map_nil]); first | done | rfl | (simp only [List.length_drop, List.length_take]; rfl)) ?_; (with_reducible refine (paths_Filename.calls a0 t113 _ A2.out).mono ?_); rintro e w3 ⟨rfl, hb⟩; refine ⟨_, rfl, ?_⟩; have n0_ := Aside0.mk (below_step (by repeat (first | (with_reducible first | exact HB.out | apply below_alloc | apply pw_below_drewN | apply below_drew1) | exact HB.out)) hb); clear HB; have HB := n0_; clear n0_; (try clear hb); (try clear hb2); (try clear hk); (try clear hi)))
  go_ret
  exact ⟨by first | rfl | (simp [errW_none, errW_some] <;> rfl) | (simp [*, errW_none, errW_some] <;> rfl), by repeat (first | (with_reducible first | exact HB.out | apply below_alloc | apply pw_below_drewN | apply below_drew1) | exact HB.out)⟩

/-! ### spec_NameKnown: function 14 -/
def spec_NameKnown.f (a0 : ByteArray) : Option (Bool) := some (decide ((a0.size : Int) ≥ 0))
set_option maxHeartbeats 8000000 in
set_option maxRecDepth 100000 in
theorem spec_NameKnown.calls (a0 : ByteArray) (r : Bool) (w : World) (h : spec_NameKnown.f a0 = some r) :
    Calls Tryd.prog 14 #[.string a0] w fun e w' => e = .returned (.bool r) ∧ Drawn0 w w' := by
  have H : (some (decide ((a0.size : Int) ≥ 0))) = some r := h
  clear h
  obtain rfl := Option.some.inj H
  go_enter Tryd.func14, Tryd.ntmps14
  go_wp2
  go_ret
  exact ⟨by first | rfl | (simp; done) | (simp [*]; done), by repeat (first | exact Drawn0.refl _ | apply Drawn0.step)⟩

/-! ### spec_pathLast: function 27 -/
def spec_pathLast.l0 : Nat → ByteArray → Int → Int → Int → Option (Int)
  | 0, _, _, _, _ => none
  | k + 1, x0, x1, x5, x6 => if x6 < (x0.size : Int) then (if 0 ≤ x6 then (if (bt x0 x6) = x1 then (spec_pathLast.l0 k x0 x1 x6 (wrap64 (x6 + 1))) else (spec_pathLast.l0 k x0 x1 x5 (wrap64 (x6 + 1)))) else (none)) else (some x5)
def spec_pathLast.f (k : Nat) (a0 : ByteArray) (a1 : Int) : Option (Int) := spec_pathLast.l0 k a0 a1 (-1) 0
theorem spec_pathLast.mono_l : ∀ k, (∀ y0 y1 y2 y3, LeO (spec_pathLast.l0 k y0 y1 y2 y3) (spec_pathLast.l0 (k + 1) y0 y1 y2 y3))
  | 0 => fun _ _ _ _ r h => by simp [spec_pathLast.l0] at h
  | k + 1 => by
    have ih0 := spec_pathLast.mono_l k
    · intro y0 y1 y2 y3
      unfold spec_pathLast.l0
      repeat' first
      | (with_reducible exact ih0 _ _ _ _)
      | (with_reducible exact LeO.refl _)
      | (with_reducible exact LeO.none _)
      | (with_reducible refine LeO.ite ?_ ?_)
      | (with_reducible refine LeO.bind ?_ (fun _ => ?_))
      | exact ih0 _ _ _ _
      | exact LeO.none _
      | refine LeO.ite ?_ ?_
      | refine LeO.bind ?_ (fun _ => ?_)
theorem spec_pathLast.mono : ∀ a0 a1 k, LeO (spec_pathLast.f k a0 a1) (spec_pathLast.f (k + 1) a0 a1) := by
  intro a0 a1 k
  have ih0 := spec_pathLast.mono_l k
  unfold spec_pathLast.f
  repeat' first
      | (with_reducible exact ih0 _ _ _ _)
      | (with_reducible exact LeO.refl _)
      | (with_reducible exact LeO.none _)
      | (with_reducible refine LeO.ite ?_ ?_)
      | (with_reducible refine LeO.bind ?_ (fun _ => ?_))
      | exact ih0 _ _ _ _
      | exact LeO.none _
      | refine LeO.ite ?_ ?_
      | refine LeO.bind ?_ (fun _ => ?_)
set_option maxHeartbeats 8000000 in
set_option maxRecDepth 100000 in
theorem spec_pathLast.calls (k : Nat) (a0 : ByteArray) (a1 : Int) (r : Int) (w : World) (h : spec_pathLast.f k a0 a1 = some r) :
    Calls Tryd.prog 27 #[.string a0, .int .u8 a1] w fun e w' => e = .returned (.int .i64 r) ∧ Drawn0 w w' := by
  have H : (spec_pathLast.l0 k a0 a1 (-1) 0) = some r := h
  clear h
  have H' := Aside0.mk H
  clear H
  go_enter Tryd.func27, Tryd.ntmps27
  go_wp2
  try simp only [Act.put, List.setIfInBounds_toArray, List.set_cons_succ, List.set_cons_zero]
  go_loopg [5, 6] k (fun kq v5 v6 w' => ∃ (x5_1 : Int) (x6_1 : Int), v5 = .int .i64 x5_1 ∧ v6 = .int .i64 x6_1 ∧ Aside0 (spec_pathLast.l0 kq a0 a1 x5_1 x6_1 = some r) ∧ Aside0 (kq ≤ k) ∧ Drawn0 w w')
  case atStart => exact ⟨((-1)), (0), (by first | rfl | (simp; done) | (simp [*]; done)), (by first | rfl | (simp; done) | (simp [*]; done)), H', ⟨Nat.le_refl _⟩, by repeat (first | exact Drawn0.refl _ | apply Drawn0.step)⟩
  case round =>
    clear H'
    try clear c2
    try clear p2
    obtain ⟨x5_1, x6_1, rfl, rfl, HA, HK1, ⟨m1, rfl⟩⟩ := hrel
    cases gk with
    | zero => exact absurd HA.out (by simp [spec_pathLast.l0])
    | succ k1 =>
      have H := HA.out
      clear HA
      simp only [spec_pathLast.l0] at H
      by_cases c3 : x6_1 < (a0.size : Int)
      · rw [if_pos c3] at H
        have c3b0 : decide (x6_1 < (a0.size : Int)) = true := decide_eq_true c3
        clear c3
        by_cases c4 : 0 ≤ x6_1
        · rw [if_pos c4] at H
          have c4b0 : decide (0 ≤ x6_1) = true := decide_eq_true c4
          clear c4
          by_cases c6 : (bt a0 x6_1) = a1
          · rw [if_pos c6] at H
            have c6b0 : ((bt a0 x6_1) == a1) = true := beq_iff_eq.mpr c6
            have c6b1 : ((bt a0 x6_1) != a1) = false := bne_eq_false_iff_eq.mpr c6
            clear c6
            have H' := Aside0.mk H
            clear H
            have p5 : 0 ≤ (x6_1 : Int) := of_decide_eq_true (by first | (with_reducible assumption) | assumption)
            have q5 : x6_1 < (a0.size : Int) := of_decide_eq_true (by first | (with_reducible assumption) | assumption)
            have hx5 := bt_at a0 x6_1
            replace p5 := eq_true p5
            replace q5 := eq_true q5
            go_wp2
            go_roundg k1
            case measure => have := HK1.out; omega
            case rel => exact ⟨(x6_1), (wrap64 (x6_1 + 1)), (by first | rfl | (simp; done) | (simp [*]; done)), (by first | rfl | (simp; done) | (simp [*]; done)), H', ⟨by have := HK1.out; omega⟩, by repeat (first | exact Drawn0.refl _ | apply Drawn0.step)⟩
          · rw [if_neg c6] at H
            have c6b0 : ((bt a0 x6_1) == a1) = false := beq_eq_false_iff_ne.mpr c6
            have c6b1 : ((bt a0 x6_1) != a1) = true := bne_iff_ne.mpr c6
            have H' := Aside0.mk H
            clear H
            have p5 : 0 ≤ (x6_1 : Int) := of_decide_eq_true (by first | (with_reducible assumption) | assumption)
            have q5 : x6_1 < (a0.size : Int) := of_decide_eq_true (by first | (with_reducible assumption) | assumption)
            have hx5 := bt_at a0 x6_1
            replace p5 := eq_true p5
            replace q5 := eq_true q5
            go_wp2
            go_roundg k1
            case measure => have := HK1.out; omega
            case rel => exact ⟨(x5_1), (wrap64 (x6_1 + 1)), (by first | rfl | (simp; done) | (simp [*]; done)), (by first | rfl | (simp; done) | (simp [*]; done)), H', ⟨by have := HK1.out; omega⟩, by repeat (first | exact Drawn0.refl _ | apply Drawn0.step)⟩
        · rw [if_neg c4] at H
          exact absurd H (by simp)
      · rw [if_neg c3] at H
        have c3b0 : decide (x6_1 < (a0.size : Int)) = false := decide_eq_false c3
        clear c3
        obtain rfl := Option.some.inj H
        go_wp2
        go_ret
        exact ⟨by first | rfl | (simp; done) | (simp [*]; done), by repeat (first | exact Drawn0.refl _ | apply Drawn0.step)⟩

/-! ### spec_FileAndExt: function 15 -/
def spec_FileAndExt.f (k : Nat) (a0 : ByteArray) : Option (ByteArray × ByteArray) := (spec_pathLast.f k a0 47).bind fun t114 => (if 0 ≤ (wrap64 (t114 + 1)) then (if (wrap64 (t114 + 1)) ≤ (a0.size : Int) then ((spec_pathLast.f k (a0.extract ((wrap64 (t114 + 1)) : Int).toNat a0.size) 46).bind fun t115 => (if t115 < 0 then (some (a0.extract ((wrap64 (t114 + 1)) : Int).toNat a0.size, (⟨#[]⟩ : ByteArray))) else (if (a0.extract ((wrap64 (t114 + 1)) : Int).toNat a0.size).toList = ([46] : List UInt8) then (if 0 ≤ t115 then (if t115 ≤ ((a0.extract ((wrap64 (t114 + 1)) : Int).toNat a0.size).size : Int) then (some ((⟨#[]⟩ : ByteArray), (a0.extract ((wrap64 (t114 + 1)) : Int).toNat a0.size).extract (t115 : Int).toNat (a0.extract ((wrap64 (t114 + 1)) : Int).toNat a0.size).size)) else (none)) else (none)) else (if (a0.extract ((wrap64 (t114 + 1)) : Int).toNat a0.size).toList = ([46, 46] : List UInt8) then (if 0 ≤ t115 then (if t115 ≤ ((a0.extract ((wrap64 (t114 + 1)) : Int).toNat a0.size).size : Int) then (some ((⟨#[]⟩ : ByteArray), (a0.extract ((wrap64 (t114 + 1)) : Int).toNat a0.size).extract (t115 : Int).toNat (a0.extract ((wrap64 (t114 + 1)) : Int).toNat a0.size).size)) else (none)) else (none)) else (if 0 ≤ t115 then (if t115 ≤ ((a0.extract ((wrap64 (t114 + 1)) : Int).toNat a0.size).size : Int) then (some ((a0.extract ((wrap64 (t114 + 1)) : Int).toNat a0.size).extract 0 (t115 : Int).toNat, (a0.extract ((wrap64 (t114 + 1)) : Int).toNat a0.size).extract (t115 : Int).toNat (a0.extract ((wrap64 (t114 + 1)) : Int).toNat a0.size).size)) else (none)) else (none)))))) else (none)) else (none))
theorem spec_FileAndExt.mono : ∀ a0 k, LeO (spec_FileAndExt.f k a0) (spec_FileAndExt.f (k + 1) a0) := by
  intro a0 k
  unfold spec_FileAndExt.f
  repeat' first
      | (with_reducible exact spec_pathLast.mono _ _ _)
      | (with_reducible exact LeO.refl _)
      | (with_reducible exact LeO.none _)
      | (with_reducible refine LeO.ite ?_ ?_)
      | (with_reducible refine LeO.bind ?_ (fun _ => ?_))
      | exact spec_pathLast.mono _ _ _
      | exact LeO.none _
      | refine LeO.ite ?_ ?_
      | refine LeO.bind ?_ (fun _ => ?_)
set_option maxHeartbeats 8000000 in
set_option maxRecDepth 100000 in
theorem spec_FileAndExt.calls (k : Nat) (a0 : ByteArray) (r1 : ByteArray) (r2 : ByteArray) (w : World) (h : spec_FileAndExt.f k a0 = some (r1, r2)) :
    Calls Tryd.prog 15 #[.string a0] w fun e w' => e = .returned (.tuple #[.string r1, .string r2]) ∧ Drawn0 w w' := by
  have H : ((spec_pathLast.f k a0 47).bind fun t114 => (if 0 ≤ (wrap64 (t114 + 1)) then (if (wrap64 (t114 + 1)) ≤ (a0.size : Int) then ((spec_pathLast.f k (a0.extract ((wrap64 (t114 + 1)) : Int).toNat a0.size) 46).bind fun t115 => (if t115 < 0 then (some (a0.extract ((wrap64 (t114 + 1)) : Int).toNat a0.size, (⟨#[]⟩ : ByteArray))) else (if (a0.extract ((wrap64 (t114 + 1)) : Int).toNat a0.size).toList = ([46] : List UInt8) then (if 0 ≤ t115 then (if t115 ≤ ((a0.extract ((wrap64 (t114 + 1)) : Int).toNat a0.size).size : Int) then (some ((⟨#[]⟩ : ByteArray), (a0.extract ((wrap64 (t114 + 1)) : Int).toNat a0.size).extract (t115 : Int).toNat (a0.extract ((wrap64 (t114 + 1)) : Int).toNat a0.size).size)) else (none)) else (none)) else (if (a0.extract ((wrap64 (t114 + 1)) : Int).toNat a0.size).toList = ([46, 46] : List UInt8) then (if 0 ≤ t115 then (if t115 ≤ ((a0.extract ((wrap64 (t114 + 1)) : Int).toNat a0.size).size : Int) then (some ((⟨#[]⟩ : ByteArray), (a0.extract ((wrap64 (t114 + 1)) : Int).toNat a0.size).extract (t115 : Int).toNat (a0.extract ((wrap64 (t114 + 1)) : Int).toNat a0.size).size)) else (none)) else (none)) else (if 0 ≤ t115 then (if t115 ≤ ((a0.extract ((wrap64 (t114 + 1)) : Int).toNat a0.size).size : Int) then (some ((a0.extract ((wrap64 (t114 + 1)) : Int).toNat a0.size).extract 0 (t115 : Int).toNat, (a0.extract ((wrap64 (t114 + 1)) : Int).toNat a0.size).extract (t115 : Int).toNat (a0.extract ((wrap64 (t114 + 1)) : Int).toNat a0.size).size)) else (none)) else (none)))))) else (none)) else (none))) = some (r1, r2) := h
  clear h
  replace H := Option.bind_eq_some_iff.mp H
  obtain ⟨t114, A20, H⟩ := H
  replace H : (if 0 ≤ (wrap64 (t114 + 1)) then (if (wrap64 (t114 + 1)) ≤ (a0.size : Int) then ((spec_pathLast.f k (a0.extract ((wrap64 (t114 + 1)) : Int).toNat a0.size) 46).bind fun t115 => (if t115 < 0 then (some (a0.extract ((wrap64 (t114 + 1)) : Int).toNat a0.size, (⟨#[]⟩ : ByteArray))) else (if (a0.extract ((wrap64 (t114 + 1)) : Int).toNat a0.size).toList = ([46] : List UInt8) then (if 0 ≤ t115 then (if t115 ≤ ((a0.extract ((wrap64 (t114 + 1)) : Int).toNat a0.size).size : Int) then (some ((⟨#[]⟩ : ByteArray), (a0.extract ((wrap64 (t114 + 1)) : Int).toNat a0.size).extract (t115 : Int).toNat (a0.extract ((wrap64 (t114 + 1)) : Int).toNat a0.size).size)) else (none)) else (none)) else (if (a0.extract ((wrap64 (t114 + 1)) : Int).toNat a0.size).toList = ([46, 46] : List UInt8) then (if 0 ≤ t115 then (if t115 ≤ ((a0.extract ((wrap64 (t114 + 1)) : Int).toNat a0.size).size : Int) then (some ((⟨#[]⟩ : ByteArray), (a0.extract ((wrap64 (t114 + 1)) : Int).toNat a0.size).extract (t115 : Int).toNat (a0.extract ((wrap64 (t114 + 1)) : Int).toNat a0.size).size)) else (none)) else (none)) else (if 0 ≤ t115 then (if t115 ≤ ((a0.extract ((wrap64 (t114 + 1)) : Int).toNat a0.size).size : Int) then (some ((a0.extract ((wrap64 (t114 + 1)) : Int).toNat a0.size).extract 0 (t115 : Int).toNat, (a0.extract ((wrap64 (t114 + 1)) : Int).toNat a0.size).extract (t115 : Int).toNat (a0.extract ((wrap64 (t114 + 1)) : Int).toNat a0.size).size)) else (none)) else (none)))))) else (none)) else (none)) = some (r1, r2) := H
  have A2 := Aside0.mk A20
  clear A20
  obtain ⟨ji3, hji3⟩ : ∃ j_ : Int, (wrap64 (t114 + 1)) = j_ := ⟨_, rfl⟩
  replace H : (if 0 ≤ (ji3) then (if (ji3) ≤ (a0.size : Int) then ((spec_pathLast.f k (a0.extract ((ji3) : Int).toNat a0.size) 46).bind fun t115 => (if t115 < 0 then (some (a0.extract ((ji3) : Int).toNat a0.size, (⟨#[]⟩ : ByteArray))) else (if (a0.extract ((ji3) : Int).toNat a0.size).toList = ([46] : List UInt8) then (if 0 ≤ t115 then (if t115 ≤ ((a0.extract ((ji3) : Int).toNat a0.size).size : Int) then (some ((⟨#[]⟩ : ByteArray), (a0.extract ((ji3) : Int).toNat a0.size).extract (t115 : Int).toNat (a0.extract ((ji3) : Int).toNat a0.size).size)) else (none)) else (none)) else (if (a0.extract ((ji3) : Int).toNat a0.size).toList = ([46, 46] : List UInt8) then (if 0 ≤ t115 then (if t115 ≤ ((a0.extract ((ji3) : Int).toNat a0.size).size : Int) then (some ((⟨#[]⟩ : ByteArray), (a0.extract ((ji3) : Int).toNat a0.size).extract (t115 : Int).toNat (a0.extract ((ji3) : Int).toNat a0.size).size)) else (none)) else (none)) else (if 0 ≤ t115 then (if t115 ≤ ((a0.extract ((ji3) : Int).toNat a0.size).size : Int) then (some ((a0.extract ((ji3) : Int).toNat a0.size).extract 0 (t115 : Int).toNat, (a0.extract ((ji3) : Int).toNat a0.size).extract (t115 : Int).toNat (a0.extract ((ji3) : Int).toNat a0.size).size)) else (none)) else (none)))))) else (none)) else (none)) = some (r1, r2) := by first | (rw [hji3] at H; exact H) | (simp only [hji3] at H ⊢; exact H)
  (try rw [hji3] at A2)
  have hji3w : (IntKind.i64.wrap (t114 + 1)) = ji3 := (i64_w _).trans hji3
  by_cases c4 : 0 ≤ (ji3)
  · rw [if_pos c4] at H
    have c4b0 := eq_true c4
    have c4b1 : decide (0 ≤ (ji3)) = true := decide_eq_true c4
    clear c4
    by_cases c5 : (ji3) ≤ (a0.size : Int)
    · rw [if_pos c5] at H
      have c5b0 := eq_true c5
      have c5b1 : decide ((ji3) ≤ (a0.size : Int)) = true := decide_eq_true c5
      clear c5
      replace H := Option.bind_eq_some_iff.mp H
      obtain ⟨t115, A60, H⟩ := H
      replace H : (if t115 < 0 then (some (a0.extract ((ji3) : Int).toNat a0.size, (⟨#[]⟩ : ByteArray))) else (if (a0.extract ((ji3) : Int).toNat a0.size).toList = ([46] : List UInt8) then (if 0 ≤ t115 then (if t115 ≤ ((a0.extract ((ji3) : Int).toNat a0.size).size : Int) then (some ((⟨#[]⟩ : ByteArray), (a0.extract ((ji3) : Int).toNat a0.size).extract (t115 : Int).toNat (a0.extract ((ji3) : Int).toNat a0.size).size)) else (none)) else (none)) else (if (a0.extract ((ji3) : Int).toNat a0.size).toList = ([46, 46] : List UInt8) then (if 0 ≤ t115 then (if t115 ≤ ((a0.extract ((ji3) : Int).toNat a0.size).size : Int) then (some ((⟨#[]⟩ : ByteArray), (a0.extract ((ji3) : Int).toNat a0.size).extract (t115 : Int).toNat (a0.extract ((ji3) : Int).toNat a0.size).size)) else (none)) else (none)) else (if 0 ≤ t115 then (if t115 ≤ ((a0.extract ((ji3) : Int).toNat a0.size).size : Int) then (some ((a0.extract ((ji3) : Int).toNat a0.size).extract 0 (t115 : Int).toNat, (a0.extract ((ji3) : Int).toNat a0.size).extract (t115 : Int).toNat (a0.extract ((ji3) : Int).toNat a0.size).size)) else (none)) else (none))))) = some (r1, r2) := H
      have A6 := Aside0.mk A60
      clear A60
      by_cases c7 : t115 < 0
      · rw [if_pos c7] at H
        have c7b0 : decide (t115 < 0) = true := decide_eq_true c7
        clear c7
        simp only [Option.some.injEq, Prod.mk.injEq] at H
        obtain ⟨rfl, rfl⟩ := H
        go_enter Tryd.func15, Tryd.ntmps15
        go_wp2_with (first | (go_at_call 27; (with_reducible refine (spec_pathLast.calls k a0 47 t114 _ A2.out).mono ?_); rintro e w' ⟨rfl, ⟨nd, rfl⟩⟩; (try first | exact ⟨rfl, _, World.drewN_drewN _ _ _⟩ | exact ⟨rfl, _, Eq.trans (World.drewN_drewN _ _ _) (congrArg (World.drewN _) (Nat.add_assoc _ _ _))⟩)) | (go_at_call 27; (with_reducible refine (spec_pathLast.calls k (a0.extract ((ji3) : Int).toNat a0.size) 46 t115 _ A6.out).mono ?_); rintro e w' ⟨rfl, ⟨nd, rfl⟩⟩; (try first | exact ⟨rfl, _, World.drewN_drewN _ _ _⟩ | exact ⟨rfl, _, Eq.trans (World.drewN_drewN _ _ _) (congrArg (World.drewN _) (Nat.add_assoc _ _ _))⟩)))
        repeat (go_quiet (first | (go_at_call 27; (with_reducible refine (spec_pathLast.calls k a0 47 t114 _ A2.out).mono ?_); rintro e w' ⟨rfl, ⟨nd, rfl⟩⟩; (try first | exact ⟨rfl, _, World.drewN_drewN _ _ _⟩ | exact ⟨rfl, _, Eq.trans (World.drewN_drewN _ _ _) (congrArg (World.drewN _) (Nat.add_assoc _ _ _))⟩)) | (go_at_call 27; (with_reducible refine (spec_pathLast.calls k (a0.extract ((ji3) : Int).toNat a0.size) 46 t115 _ A6.out).mono ?_); rintro e w' ⟨rfl, ⟨nd, rfl⟩⟩; (try first | exact ⟨rfl, _, World.drewN_drewN _ _ _⟩ | exact ⟨rfl, _, Eq.trans (World.drewN_drewN _ _ _) (congrArg (World.drewN _) (Nat.add_assoc _ _ _))⟩))); try go_wp2_with (first | (go_at_call 27; (with_reducible refine (spec_pathLast.calls k a0 47 t114 _ A2.out).mono ?_); rintro e w' ⟨rfl, ⟨nd, rfl⟩⟩; (try first | exact ⟨rfl, _, World.drewN_drewN _ _ _⟩ | exact ⟨rfl, _, Eq.trans (World.drewN_drewN _ _ _) (congrArg (World.drewN _) (Nat.add_assoc _ _ _))⟩)) | (go_at_call 27; (with_reducible refine (spec_pathLast.calls k (a0.extract ((ji3) : Int).toNat a0.size) 46 t115 _ A6.out).mono ?_); rintro e w' ⟨rfl, ⟨nd, rfl⟩⟩; (try first | exact ⟨rfl, _, World.drewN_drewN _ _ _⟩ | exact ⟨rfl, _, Eq.trans (World.drewN_drewN _ _ _) (congrArg (World.drewN _) (Nat.add_assoc _ _ _))⟩))))
        go_ret2
        exact ⟨by first | rfl | (simp; done) | (simp only [← hji3] <;> (first | rfl | simp)) | (simp [*]; done), by repeat (first | exact Drawn0.refl _ | apply Drawn0.step)⟩
      · rw [if_neg c7] at H
        have c7b0 : decide (t115 < 0) = false := decide_eq_false c7
        clear c7
        by_cases c8 : (a0.extract ((ji3) : Int).toNat a0.size).toList = ([46] : List UInt8)
        · rw [if_pos c8] at H
          have c8b0 : ((a0.extract ((ji3) : Int).toNat a0.size).toList == ([46] : List UInt8)) = true := beq_iff_eq.mpr c8
          have c8b1 : ((a0.extract ((ji3) : Int).toNat a0.size).toList != ([46] : List UInt8)) = false := bne_eq_false_iff_eq.mpr c8
          clear c8
          by_cases c9 : 0 ≤ t115
          · rw [if_pos c9] at H
            have c9b0 := eq_true c9
            have c9b1 : decide (0 ≤ t115) = true := decide_eq_true c9
            clear c9
            generalize hxs10 : (a0.extract ((ji3) : Int).toNat a0.size) = xs10 at *
            replace H : (if t115 ≤ (xs10.size : Int) then (some ((⟨#[]⟩ : ByteArray), xs10.extract (t115 : Int).toNat xs10.size)) else (none)) = some (r1, r2) := by first | exact H | (rw [hxs10] at H; exact H) | (simp only [hxs10] at H ⊢; exact H)
            by_cases c11 : t115 ≤ (xs10.size : Int)
            · rw [if_pos c11] at H
              have c11b0 := eq_true c11
              have c11b1 : decide (t115 ≤ (xs10.size : Int)) = true := decide_eq_true c11
              clear c11
              simp only [Option.some.injEq, Prod.mk.injEq] at H
              obtain ⟨rfl, rfl⟩ := H
              go_enter Tryd.func15, Tryd.ntmps15
              go_wp2_with (first | (go_at_call 27; (with_reducible refine (spec_pathLast.calls k a0 47 t114 _ A2.out).mono ?_); rintro e w' ⟨rfl, ⟨nd, rfl⟩⟩; (try first | exact ⟨rfl, _, World.drewN_drewN _ _ _⟩ | exact ⟨rfl, _, Eq.trans (World.drewN_drewN _ _ _) (congrArg (World.drewN _) (Nat.add_assoc _ _ _))⟩)) | (go_at_call 27; (with_reducible refine (spec_pathLast.calls k xs10 46 t115 _ A6.out).mono ?_); rintro e w' ⟨rfl, ⟨nd, rfl⟩⟩; (try first | exact ⟨rfl, _, World.drewN_drewN _ _ _⟩ | exact ⟨rfl, _, Eq.trans (World.drewN_drewN _ _ _) (congrArg (World.drewN _) (Nat.add_assoc _ _ _))⟩)))
              repeat (go_quiet (first | (go_at_call 27; (with_reducible refine (spec_pathLast.calls k a0 47 t114 _ A2.out).mono ?_); rintro e w' ⟨rfl, ⟨nd, rfl⟩⟩; (try first | exact ⟨rfl, _, World.drewN_drewN _ _ _⟩ | exact ⟨rfl, _, Eq.trans (World.drewN_drewN _ _ _) (congrArg (World.drewN _) (Nat.add_assoc _ _ _))⟩)) | (go_at_call 27; (with_reducible refine (spec_pathLast.calls k xs10 46 t115 _ A6.out).mono ?_); rintro e w' ⟨rfl, ⟨nd, rfl⟩⟩; (try first | exact ⟨rfl, _, World.drewN_drewN _ _ _⟩ | exact ⟨rfl, _, Eq.trans (World.drewN_drewN _ _ _) (congrArg (World.drewN _) (Nat.add_assoc _ _ _))⟩))); try go_wp2_with (first | (go_at_call 27; (with_reducible refine (spec_pathLast.calls k a0 47 t114 _ A2.out).mono ?_); rintro e w' ⟨rfl, ⟨nd, rfl⟩⟩; (try first | exact ⟨rfl, _, World.drewN_drewN _ _ _⟩ | exact ⟨rfl, _, Eq.trans (World.drewN_drewN _ _ _) (congrArg (World.drewN _) (Nat.add_assoc _ _ _))⟩)) | (go_at_call 27; (with_reducible refine (spec_pathLast.calls k xs10 46 t115 _ A6.out).mono ?_); rintro e w' ⟨rfl, ⟨nd, rfl⟩⟩; (try first | exact ⟨rfl, _, World.drewN_drewN _ _ _⟩ | exact ⟨rfl, _, Eq.trans (World.drewN_drewN _ _ _) (congrArg (World.drewN _) (Nat.add_assoc _ _ _))⟩))))
              go_ret2
              exact ⟨by first | rfl | (simp; done) | (simp only [← hji3, ← hxs10] <;> (first | rfl | simp)) | (simp [*]; done), by repeat (first | exact Drawn0.refl _ | apply Drawn0.step)⟩
            · rw [if_neg c11] at H
              exact absurd H (by simp)
          · rw [if_neg c9] at H
            exact absurd H (by simp)
        · rw [if_neg c8] at H
          have c8b0 : ((a0.extract ((ji3) : Int).toNat a0.size).toList == ([46] : List UInt8)) = false := beq_eq_false_iff_ne.mpr c8
          have c8b1 : ((a0.extract ((ji3) : Int).toNat a0.size).toList != ([46] : List UInt8)) = true := bne_iff_ne.mpr c8
          by_cases c12 : (a0.extract ((ji3) : Int).toNat a0.size).toList = ([46, 46] : List UInt8)
          · rw [if_pos c12] at H
            have c12b0 : ((a0.extract ((ji3) : Int).toNat a0.size).toList == ([46, 46] : List UInt8)) = true := beq_iff_eq.mpr c12
            have c12b1 : ((a0.extract ((ji3) : Int).toNat a0.size).toList != ([46, 46] : List UInt8)) = false := bne_eq_false_iff_eq.mpr c12
            clear c12
            by_cases c13 : 0 ≤ t115
            · rw [if_pos c13] at H
              have c13b0 := eq_true c13
              have c13b1 : decide (0 ≤ t115) = true := decide_eq_true c13
              clear c13
              generalize hxs14 : (a0.extract ((ji3) : Int).toNat a0.size) = xs14 at *
              replace H : (if t115 ≤ (xs14.size : Int) then (some ((⟨#[]⟩ : ByteArray), xs14.extract (t115 : Int).toNat xs14.size)) else (none)) = some (r1, r2) := by first | exact H | (rw [hxs14] at H; exact H) | (simp only [hxs14] at H ⊢; exact H)
              by_cases c15 : t115 ≤ (xs14.size : Int)
              · rw [if_pos c15] at H
                have c15b0 := eq_true c15
                have c15b1 : decide (t115 ≤ (xs14.size : Int)) = true := decide_eq_true c15
                clear c15
                simp only [Option.some.injEq, Prod.mk.injEq] at H
                obtain ⟨rfl, rfl⟩ := H
                go_enter Tryd.func15, Tryd.ntmps15
                go_wp2_with (first | (go_at_call 27; (with_reducible refine (spec_pathLast.calls k a0 47 t114 _ A2.out).mono ?_); rintro e w' ⟨rfl, ⟨nd, rfl⟩⟩; (try first | exact ⟨rfl, _, World.drewN_drewN _ _ _⟩ | exact ⟨rfl, _, Eq.trans (World.drewN_drewN _ _ _) (congrArg (World.drewN _) (Nat.add_assoc _ _ _))⟩)) | (go_at_call 27; (with_reducible refine (spec_pathLast.calls k xs14 46 t115 _ A6.out).mono ?_); rintro e w' ⟨rfl, ⟨nd, rfl⟩⟩; (try first | exact ⟨rfl, _, World.drewN_drewN _ _ _⟩ | exact ⟨rfl, _, Eq.trans (World.drewN_drewN _ _ _) (congrArg (World.drewN _) (Nat.add_assoc _ _ _))⟩)))
                repeat (go_quiet (first | (go_at_call 27; (with_reducible refine (spec_pathLast.calls k a0 47 t114 _ A2.out).mono ?_); rintro e w' ⟨rfl, ⟨nd, rfl⟩⟩; (try first | exact ⟨rfl, _, World.drewN_drewN _ _ _⟩ | exact ⟨rfl, _, Eq.trans (World.drewN_drewN _ _ _) (congrArg (World.drewN _) (Nat.add_assoc _ _ _))⟩)) | (go_at_call 27; (with_reducible refine (spec_pathLast.calls k xs14 46 t115 _ A6.out).mono ?_); rintro e w' ⟨rfl, ⟨nd, rfl⟩⟩; (try first | exact ⟨rfl, _, World.drewN_drewN _ _ _⟩ | exact ⟨rfl, _, Eq.trans (World.drewN_drewN _ _ _) (congrArg (World.drewN _) (Nat.add_assoc _ _ _))⟩))); try go_wp2_with (first | (go_at_call 27; (with_reducible refine (spec_pathLast.calls k a0 47 t114 _ A2.out).mono ?_); rintro e w' ⟨rfl, ⟨nd, rfl⟩⟩; (try first | exact ⟨rfl, _, World.drewN_drewN _ _ _⟩ | exact ⟨rfl, _, Eq.trans (World.drewN_drewN _ _ _) (congrArg (World.drewN _) (Nat.add_assoc _ _ _))⟩)) | (go_at_call 27; (with_reducible refine (spec_pathLast.calls k xs14 46 t115 _ A6.out).mono ?_); rintro e w' ⟨rfl, ⟨nd, rfl⟩⟩; (try first | exact ⟨rfl, _, World.drewN_drewN _ _ _⟩ | exact ⟨rfl, _, Eq.trans (World.drewN_drewN _ _ _) (congrArg (World.drewN _) (Nat.add_assoc _ _ _))⟩))))
                go_ret2
                exact ⟨by first | rfl | (simp; done) | (simp only [← hji3, ← hxs14] <;> (first | rfl | simp)) | (simp [*]; done), by repeat (first | exact Drawn0.refl _ | apply Drawn0.step)⟩
              · rw [if_neg c15] at H
                exact absurd H (by simp)
            · rw [if_neg c13] at H
              exact absurd H (by simp)
          · rw [if_neg c12] at H
            have c12b0 : ((a0.extract ((ji3) : Int).toNat a0.size).toList == ([46, 46] : List UInt8)) = false := beq_eq_false_iff_ne.mpr c12
            have c12b1 : ((a0.extract ((ji3) : Int).toNat a0.size).toList != ([46, 46] : List UInt8)) = true := bne_iff_ne.mpr c12
            by_cases c16 : 0 ≤ t115
            · rw [if_pos c16] at H
              have c16b0 := eq_true c16
              have c16b1 : decide (0 ≤ t115) = true := decide_eq_true c16
              clear c16
              generalize hxs17 : (a0.extract ((ji3) : Int).toNat a0.size) = xs17 at *
              replace H : (if t115 ≤ (xs17.size : Int) then (some (xs17.extract 0 (t115 : Int).toNat, xs17.extract (t115 : Int).toNat xs17.size)) else (none)) = some (r1, r2) := by first | exact H | (rw [hxs17] at H; exact H) | (simp only [hxs17] at H ⊢; exact H)
              by_cases c18 : t115 ≤ (xs17.size : Int)
              · rw [if_pos c18] at H
                have c18b0 := eq_true c18
                have c18b1 : decide (t115 ≤ (xs17.size : Int)) = true := decide_eq_true c18
                clear c18
                have c19b0 := eq_true (of_decide_eq_true (by first | (with_reducible assumption) | assumption) : 0 ≤ t115)
                have c20b0 := eq_true (of_decide_eq_true (by first | (with_reducible assumption) | assumption) : t115 ≤ (xs17.size : Int))
                simp only [Option.some.injEq, Prod.mk.injEq] at H
                obtain ⟨rfl, rfl⟩ := H
                go_enter Tryd.func15, Tryd.ntmps15
                go_wp2_with (first | (go_at_call 27; (with_reducible refine (spec_pathLast.calls k a0 47 t114 _ A2.out).mono ?_); rintro e w' ⟨rfl, ⟨nd, rfl⟩⟩; (try first | exact ⟨rfl, _, World.drewN_drewN _ _ _⟩ | exact ⟨rfl, _, Eq.trans (World.drewN_drewN _ _ _) (congrArg (World.drewN _) (Nat.add_assoc _ _ _))⟩)) | (go_at_call 27; (with_reducible refine (spec_pathLast.calls k xs17 46 t115 _ A6.out).mono ?_); rintro e w' ⟨rfl, ⟨nd, rfl⟩⟩; (try first | exact ⟨rfl, _, World.drewN_drewN _ _ _⟩ | exact ⟨rfl, _, Eq.trans (World.drewN_drewN _ _ _) (congrArg (World.drewN _) (Nat.add_assoc _ _ _))⟩)))
                repeat (go_quiet (first | (go_at_call 27; (with_reducible refine (spec_pathLast.calls k a0 47 t114 _ A2.out).mono ?_); rintro e w' ⟨rfl, ⟨nd, rfl⟩⟩; (try first | exact ⟨rfl, _, World.drewN_drewN _ _ _⟩ | exact ⟨rfl, _, Eq.trans (World.drewN_drewN _ _ _) (congrArg (World.drewN _) (Nat.add_assoc _ _ _))⟩)) | (go_at_call 27; (with_reducible refine (spec_pathLast.calls k xs17 46 t115 _ A6.out).mono ?_); rintro e w' ⟨rfl, ⟨nd, rfl⟩⟩; (try first | exact ⟨rfl, _, World.drewN_drewN _ _ _⟩ | exact ⟨rfl, _, Eq.trans (World.drewN_drewN _ _ _) (congrArg (World.drewN _) (Nat.add_assoc _ _ _))⟩))); try go_wp2_with (first | (go_at_call 27; (with_reducible refine (spec_pathLast.calls k a0 47 t114 _ A2.out).mono ?_); rintro e w' ⟨rfl, ⟨nd, rfl⟩⟩; (try first | exact ⟨rfl, _, World.drewN_drewN _ _ _⟩ | exact ⟨rfl, _, Eq.trans (World.drewN_drewN _ _ _) (congrArg (World.drewN _) (Nat.add_assoc _ _ _))⟩)) | (go_at_call 27; (with_reducible refine (spec_pathLast.calls k xs17 46 t115 _ A6.out).mono ?_); rintro e w' ⟨rfl, ⟨nd, rfl⟩⟩; (try first | exact ⟨rfl, _, World.drewN_drewN _ _ _⟩ | exact ⟨rfl, _, Eq.trans (World.drewN_drewN _ _ _) (congrArg (World.drewN _) (Nat.add_assoc _ _ _))⟩))))
                go_ret2
                exact ⟨by first | rfl | (simp; done) | (simp only [← hji3, ← hxs17] <;> (first | rfl | simp)) | (simp [*]; done), by repeat (first | exact Drawn0.refl _ | apply Drawn0.step)⟩
              · rw [if_neg c18] at H
                exact absurd H (by simp)
            · rw [if_neg c16] at H
              exact absurd H (by simp)
    · rw [if_neg c5] at H
      exact absurd H (by simp)
  · rw [if_neg c4] at H
    exact absurd H (by simp)

/-! ### spec_FileAndExtNoDelimiter: function 16 -/
def spec_FileAndExtNoDelimiter.f (k : Nat) (a0 : ByteArray) : Option (ByteArray × ByteArray) := (spec_FileAndExt.f k a0).bind fun bt116 => (if bt116.2.toList = ([] : List UInt8) then (some (bt116.1, bt116.2)) else (if 1 ≤ (bt116.2.size : Int) then (some (bt116.1, bt116.2.extract 1 bt116.2.size)) else (none)))
theorem spec_FileAndExtNoDelimiter.mono : ∀ a0 k, LeO (spec_FileAndExtNoDelimiter.f k a0) (spec_FileAndExtNoDelimiter.f (k + 1) a0) := by
  intro a0 k
  unfold spec_FileAndExtNoDelimiter.f
  repeat' first
      | (with_reducible exact spec_FileAndExt.mono _ _)
      | (with_reducible exact LeO.refl _)
      | (with_reducible exact LeO.none _)
      | (with_reducible refine LeO.ite ?_ ?_)
      | (with_reducible refine LeO.bind ?_ (fun _ => ?_))
      | exact spec_FileAndExt.mono _ _
      | exact LeO.none _
      | refine LeO.ite ?_ ?_
      | refine LeO.bind ?_ (fun _ => ?_)
set_option maxHeartbeats 8000000 in
set_option maxRecDepth 100000 in
theorem spec_FileAndExtNoDelimiter.calls (k : Nat) (a0 : ByteArray) (r1 : ByteArray) (r2 : ByteArray) (w : World) (h : spec_FileAndExtNoDelimiter.f k a0 = some (r1, r2)) :
    Calls Tryd.prog 16 #[.string a0] w fun e w' => e = .returned (.tuple #[.string r1, .string r2]) ∧ Drawn0 w w' := by
  have H : ((spec_FileAndExt.f k a0).bind fun bt116 => (if bt116.2.toList = ([] : List UInt8) then (some (bt116.1, bt116.2)) else (if 1 ≤ (bt116.2.size : Int) then (some (bt116.1, bt116.2.extract 1 bt116.2.size)) else (none)))) = some (r1, r2) := h
  clear h
  replace H := Option.bind_eq_some_iff.mp H
  obtain ⟨⟨t116, t117⟩, A20, H⟩ := H
  replace H : (if t117.toList = ([] : List UInt8) then (some (t116, t117)) else (if 1 ≤ (t117.size : Int) then (some (t116, t117.extract 1 t117.size)) else (none))) = some (r1, r2) := H
  have A2 := Aside0.mk A20
  clear A20
  by_cases c3 : t117.toList = ([] : List UInt8)
  · rw [if_pos c3] at H
    have c3b0 : (t117.toList == ([] : List UInt8)) = true := beq_iff_eq.mpr c3
    have c3b1 : (t117.toList != ([] : List UInt8)) = false := bne_eq_false_iff_eq.mpr c3
    clear c3
    simp only [Option.some.injEq, Prod.mk.injEq] at H
    obtain ⟨rfl, rfl⟩ := H
    go_enter Tryd.func16, Tryd.ntmps16
    go_wp2_with (first | ((with_reducible refine gate_callee (f := 15) rfl ?_); refine goesL_ (some 6) rfl rfl Tryd.func15 (by kernel_rfl) rfl #[.string a0] rfl (by (try simp only [List.map_toArray, List.map_cons, List.map_nil]); first | done | rfl | (simp only [List.length_drop, List.length_take]; rfl)) ?_; (with_reducible refine (spec_FileAndExt.calls k a0 t116 t117 _ A2.out).mono ?_); rintro e w' ⟨rfl, ⟨nd, rfl⟩⟩; refine ⟨_, rfl, ?_⟩))
    go_ret2
    exact ⟨by first | rfl | (simp; done) | (simp [*]; done), by repeat (first | exact Drawn0.refl _ | apply Drawn0.step)⟩
  · rw [if_neg c3] at H
    have c3b0 : (t117.toList == ([] : List UInt8)) = false := beq_eq_false_iff_ne.mpr c3
    have c3b1 : (t117.toList != ([] : List UInt8)) = true := bne_iff_ne.mpr c3
    by_cases c4 : 1 ≤ (t117.size : Int)
    · rw [if_pos c4] at H
      have c4b0 := eq_true c4
      have c4b1 : decide (1 ≤ (t117.size : Int)) = true := decide_eq_true c4
      clear c4
      simp only [Option.some.injEq, Prod.mk.injEq] at H
      obtain ⟨rfl, rfl⟩ := H
      go_enter Tryd.func16, Tryd.ntmps16
      go_wp2_with (first | ((with_reducible refine gate_callee (f := 15) rfl ?_); refine goesL_ (some 6) rfl rfl Tryd.func15 (by kernel_rfl) rfl #[.string a0] rfl (by (try simp only [List.map_toArray, List.map_cons, List.map_nil]); first | done | rfl | (simp only [List.length_drop, List.length_take]; rfl)) ?_; (with_reducible refine (spec_FileAndExt.calls k a0 t116 t117 _ A2.out).mono ?_); rintro e w' ⟨rfl, ⟨nd, rfl⟩⟩; refine ⟨_, rfl, ?_⟩))
      go_ret2
      exact ⟨by first | rfl | (simp; done) | (simp [*]; done), by repeat (first | exact Drawn0.refl _ | apply Drawn0.step)⟩
    · rw [if_neg c4] at H
      exact absurd H (by simp)

/-! ### spec_PathAndExt: function 17 -/
def spec_PathAndExt.f (k : Nat) (a0 : ByteArray) : Option (ByteArray × ByteArray) := (spec_FileAndExt.f k a0).bind fun bt118 => (some (bt118.1, bt118.2))
theorem spec_PathAndExt.mono : ∀ a0 k, LeO (spec_PathAndExt.f k a0) (spec_PathAndExt.f (k + 1) a0) := by
  intro a0 k
  unfold spec_PathAndExt.f
  repeat' first
      | (with_reducible exact spec_FileAndExt.mono _ _)
      | (with_reducible exact LeO.refl _)
      | (with_reducible exact LeO.none _)
      | (with_reducible refine LeO.ite ?_ ?_)
      | (with_reducible refine LeO.bind ?_ (fun _ => ?_))
      | exact spec_FileAndExt.mono _ _
      | exact LeO.none _
      | refine LeO.ite ?_ ?_
      | refine LeO.bind ?_ (fun _ => ?_)
set_option maxHeartbeats 8000000 in
set_option maxRecDepth 100000 in
theorem spec_PathAndExt.calls (k : Nat) (a0 : ByteArray) (r1 : ByteArray) (r2 : ByteArray) (w : World) (h : spec_PathAndExt.f k a0 = some (r1, r2)) :
    Calls Tryd.prog 17 #[.string a0] w fun e w' => e = .returned (.tuple #[.string r1, .string r2]) ∧ Drawn0 w w' := by
  have H : ((spec_FileAndExt.f k a0).bind fun bt118 => (some (bt118.1, bt118.2))) = some (r1, r2) := h
  clear h
  replace H := Option.bind_eq_some_iff.mp H
  obtain ⟨⟨t118, t119⟩, A20, H⟩ := H
  replace H : (some (t118, t119)) = some (r1, r2) := H
  have A2 := Aside0.mk A20
  clear A20
  simp only [Option.some.injEq, Prod.mk.injEq] at H
  obtain ⟨rfl, rfl⟩ := H
  go_enter Tryd.func17, Tryd.ntmps17
  go_wp2_with (first | ((with_reducible refine gate_callee (f := 15) rfl ?_); refine goesL_ (some 5) rfl rfl Tryd.func15 (by kernel_rfl) rfl #[.string a0] rfl (by (try simp only [List.map_toArray, List.map_cons, List.map_nil]); first | done | rfl | (simp only [List.length_drop, List.length_take]; rfl)) ?_; (with_reducible refine (spec_FileAndExt.calls k a0 t118 t119 _ A2.out).mono ?_); rintro e w' ⟨rfl, ⟨nd, rfl⟩⟩; refine ⟨_, rfl, ?_⟩))
  go_ret2
  exact ⟨by first | rfl | (simp; done) | (simp [*]; done), by repeat (first | exact Drawn0.refl _ | apply Drawn0.step)⟩

/-! ### spec_Ext: function 18 -/
def spec_Ext.f (k : Nat) (a0 : ByteArray) : Option (ByteArray) := (spec_FileAndExt.f k a0).bind fun bt120 => (some bt120.2)
theorem spec_Ext.mono : ∀ a0 k, LeO (spec_Ext.f k a0) (spec_Ext.f (k + 1) a0) := by
  intro a0 k
  unfold spec_Ext.f
  repeat' first
      | (with_reducible exact spec_FileAndExt.mono _ _)
      | (with_reducible exact LeO.refl _)
      | (with_reducible exact LeO.none _)
      | (with_reducible refine LeO.ite ?_ ?_)
      | (with_reducible refine LeO.bind ?_ (fun _ => ?_))
      | exact spec_FileAndExt.mono _ _
      | exact LeO.none _
      | refine LeO.ite ?_ ?_
      | refine LeO.bind ?_ (fun _ => ?_)
set_option maxHeartbeats 8000000 in
set_option maxRecDepth 100000 in
theorem spec_Ext.calls (k : Nat) (a0 : ByteArray) (r : ByteArray) (w : World) (h : spec_Ext.f k a0 = some r) :
    Calls Tryd.prog 18 #[.string a0] w fun e w' => e = .returned (.string r) ∧ Drawn0 w w' := by
  have H : ((spec_FileAndExt.f k a0).bind fun bt120 => (some bt120.2)) = some r := h
  clear h
  replace H := Option.bind_eq_some_iff.mp H
  obtain ⟨⟨t120, t121⟩, A20, H⟩ := H
  replace H : (some t121) = some r := H
  have A2 := Aside0.mk A20
  clear A20
  obtain rfl := Option.some.inj H
  go_enter Tryd.func18, Tryd.ntmps18
  go_wp2_with (first | ((with_reducible refine gate_callee (f := 15) rfl ?_); refine goesL_ (some 7) rfl rfl Tryd.func15 (by kernel_rfl) rfl #[.string a0] rfl (by (try simp only [List.map_toArray, List.map_cons, List.map_nil]); first | done | rfl | (simp only [List.length_drop, List.length_take]; rfl)) ?_; (with_reducible refine (spec_FileAndExt.calls k a0 t120 t121 _ A2.out).mono ?_); rintro e w' ⟨rfl, ⟨nd, rfl⟩⟩; refine ⟨_, rfl, ?_⟩))
  go_ret
  exact ⟨by first | rfl | (simp; done) | (simp [*]; done), by repeat (first | exact Drawn0.refl _ | apply Drawn0.step)⟩

/-! ### spec_ExtNoDelimiter: function 19 -/
def spec_ExtNoDelimiter.f (k : Nat) (a0 : ByteArray) : Option (ByteArray) := (spec_FileAndExtNoDelimiter.f k a0).bind fun bt122 => (some bt122.2)
theorem spec_ExtNoDelimiter.mono : ∀ a0 k, LeO (spec_ExtNoDelimiter.f k a0) (spec_ExtNoDelimiter.f (k + 1) a0) := by
  intro a0 k
  unfold spec_ExtNoDelimiter.f
  repeat' first
      | (with_reducible exact spec_FileAndExtNoDelimiter.mono _ _)
      | (with_reducible exact LeO.refl _)
      | (with_reducible exact LeO.none _)
      | (with_reducible refine LeO.ite ?_ ?_)
      | (with_reducible refine LeO.bind ?_ (fun _ => ?_))
      | exact spec_FileAndExtNoDelimiter.mono _ _
      | exact LeO.none _
      | refine LeO.ite ?_ ?_
      | refine LeO.bind ?_ (fun _ => ?_)
set_option maxHeartbeats 8000000 in
set_option maxRecDepth 100000 in
theorem spec_ExtNoDelimiter.calls (k : Nat) (a0 : ByteArray) (r : ByteArray) (w : World) (h : spec_ExtNoDelimiter.f k a0 = some r) :
    Calls Tryd.prog 19 #[.string a0] w fun e w' => e = .returned (.string r) ∧ Drawn0 w w' := by
  have H : ((spec_FileAndExtNoDelimiter.f k a0).bind fun bt122 => (some bt122.2)) = some r := h
  clear h
  replace H := Option.bind_eq_some_iff.mp H
  obtain ⟨⟨t122, t123⟩, A20, H⟩ := H
  replace H : (some t123) = some r := H
  have A2 := Aside0.mk A20
  clear A20
  obtain rfl := Option.some.inj H
  go_enter Tryd.func19, Tryd.ntmps19
  go_wp2_with (first | ((with_reducible refine gate_callee (f := 16) rfl ?_); refine goesL_ (some 7) rfl rfl Tryd.func16 (by kernel_rfl) rfl #[.string a0] rfl (by (try simp only [List.map_toArray, List.map_cons, List.map_nil]); first | done | rfl | (simp only [List.length_drop, List.length_take]; rfl)) ?_; (with_reducible refine (spec_FileAndExtNoDelimiter.calls k a0 t122 t123 _ A2.out).mono ?_); rintro e w' ⟨rfl, ⟨nd, rfl⟩⟩; refine ⟨_, rfl, ?_⟩))
  go_ret
  exact ⟨by first | rfl | (simp; done) | (simp [*]; done), by repeat (first | exact Drawn0.refl _ | apply Drawn0.step)⟩

/-! ### spec_Filename: function 20 -/
def spec_Filename.f (k : Nat) (a0 : ByteArray) : Option (ByteArray) := (spec_FileAndExt.f k a0).bind fun bt124 => (some bt124.1)
theorem spec_Filename.mono : ∀ a0 k, LeO (spec_Filename.f k a0) (spec_Filename.f (k + 1) a0) := by
  intro a0 k
  unfold spec_Filename.f
  repeat' first
      | (with_reducible exact spec_FileAndExt.mono _ _)
      | (with_reducible exact LeO.refl _)
      | (with_reducible exact LeO.none _)
      | (with_reducible refine LeO.ite ?_ ?_)
      | (with_reducible refine LeO.bind ?_ (fun _ => ?_))
      | exact spec_FileAndExt.mono _ _
      | exact LeO.none _
      | refine LeO.ite ?_ ?_
      | refine LeO.bind ?_ (fun _ => ?_)
set_option maxHeartbeats 8000000 in
set_option maxRecDepth 100000 in
theorem spec_Filename.calls (k : Nat) (a0 : ByteArray) (r : ByteArray) (w : World) (h : spec_Filename.f k a0 = some r) :
    Calls Tryd.prog 20 #[.string a0] w fun e w' => e = .returned (.string r) ∧ Drawn0 w w' := by
  have H : ((spec_FileAndExt.f k a0).bind fun bt124 => (some bt124.1)) = some r := h
  clear h
  replace H := Option.bind_eq_some_iff.mp H
  obtain ⟨⟨t124, t125⟩, A20, H⟩ := H
  replace H : (some t124) = some r := H
  have A2 := Aside0.mk A20
  clear A20
  obtain rfl := Option.some.inj H
  go_enter Tryd.func20, Tryd.ntmps20
  go_wp2_with (first | ((with_reducible refine gate_callee (f := 15) rfl ?_); refine goesL_ (some 7) rfl rfl Tryd.func15 (by kernel_rfl) rfl #[.string a0] rfl (by (try simp only [List.map_toArray, List.map_cons, List.map_nil]); first | done | rfl | (simp only [List.length_drop, List.length_take]; rfl)) ?_; (with_reducible refine (spec_FileAndExt.calls k a0 t124 t125 _ A2.out).mono ?_); rintro e w' ⟨rfl, ⟨nd, rfl⟩⟩; refine ⟨_, rfl, ?_⟩))
  go_ret
  exact ⟨by first | rfl | (simp; done) | (simp [*]; done), by repeat (first | exact Drawn0.refl _ | apply Drawn0.step)⟩

end Go.Proofs.YtgcadmofjblaeaaDoor.PFnNames
