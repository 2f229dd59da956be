/- Printed by a program of this session (a printer turned to take contracts that were proved by hand): functions with the answers of the Go functions, and proofs that the code comes to these answers; no condition beyond what each theorem names. -/
import Derived.Test.YtgcadmofjblaeaaDoorPFnNameBuiltx0
import Derived.Test.YtgcadmofjblaeaaDoorPFnNameBuiltx1
namespace Go.Proofs.YtgcadmofjblaeaaDoor.PFnNameBuilt
open Go.RowKit Go.Proofs.YtgcadmofjblaeaaDoorW.PrintWords Go.Proofs.YtgcadmofjblaeaaDoorW.PrintLast Go.Proofs.YtgcadmofjblaeaaDoorW.PrintMore
attribute [local go_sem] max2_int min2_int max_two min_two max_three min_three max_four min_four   -- for this text's walks alone
set_option linter.unusedVariables false
set_option linter.unusedSimpArgs false

/-! ### laws_FnNameBuilt: function 4 -/
mutual
def laws_FnNameBuilt.j0 : Nat → List ByteArray → ByteArray → ByteArray → Bool → Option (Bool)
  | 0, _, _, _, _ => none
  | k + 1, x0, x1, x2, x26 => if x26 = true then (some true) else (if (x0.length : Int) > 2000 then (laws_FnNameBuilt.j1 k x0 x1 x2 true) else (if x1.toList = ([] : List UInt8) then (laws_FnNameBuilt.j1 k x0 x1 x2 true) else (if x1.toList = ([46] : List UInt8) then (laws_FnNameBuilt.j1 k x0 x1 x2 true) else (if x1.toList = ([46, 46] : List UInt8) then (laws_FnNameBuilt.j1 k x0 x1 x2 true) else ((laws_has.f k x1 (⟨#[47]⟩ : ByteArray)).bind fun t114 => (if t114 = true then (laws_FnNameBuilt.j1 k x0 x1 x2 true) else ((laws_has.f k x2 (⟨#[47]⟩ : ByteArray)).bind fun t115 => (if t115 = true then (laws_FnNameBuilt.j1 k x0 x1 x2 true) else ((laws_has.f k x2 (⟨#[46]⟩ : ByteArray)).bind fun t116 => (if t116 = true then (laws_FnNameBuilt.j1 k x0 x1 x2 true) else ((laws_has.f k x1 (⟨#[46]⟩ : ByteArray)).bind fun t117 => (if t117 = true then (if 0 < (x1.size : Int) then (laws_FnNameBuilt.j1 k x0 x1 x2 ((bt x1 0) == 46)) else (none)) else (laws_FnNameBuilt.j1 k x0 x1 x2 false)))))))))))))
def laws_FnNameBuilt.j1 : Nat → List ByteArray → ByteArray → ByteArray → Bool → Option (Bool)
  | 0, _, _, _, _ => none
  | k + 1, x0, x1, x2, x62 => if x62 = true then (some true) else (laws_FnNameBuilt.l0 k x1 x2 (⟨#[]⟩ : ByteArray) x0 (x0.length : Int) 0)
def laws_FnNameBuilt.l0 : Nat → ByteArray → ByteArray → ByteArray → List ByteArray → Int → Int → Option (Bool)
  | 0, _, _, _, _, _, _ => none
  | k + 1, x1, x2, x7, x63, x64, x65 => if x65 < x64 then (if 0 ≤ x65 then (if x65 < (x63.length : Int) then ((laws_has.f k (rdOf ByteArray.empty x63 x65) (⟨#[47]⟩ : ByteArray)).bind fun t119 => (if t119 = true then (some true) else (if (rdOf ByteArray.empty x63 x65).toList = ([] : List UInt8) then (some true) else (if (x7.size : Int) > 65536 then (some true) else (if (rdOf ByteArray.empty x63 x65).size + 1 ≤ 9223372036854775807 then (if x7.size + ((rdOf ByteArray.empty x63 x65) ++ (⟨#[47]⟩ : ByteArray)).size ≤ 9223372036854775807 then (laws_FnNameBuilt.l0 k x1 x2 (x7 ++ ((rdOf ByteArray.empty x63 x65) ++ (⟨#[47]⟩ : ByteArray))) x63 x64 (wrap64 (x65 + 1))) else (none)) else (none)))))) else (none)) else (none)) else (if x1.size + 1 ≤ 9223372036854775807 then (if (x1 ++ (⟨#[46]⟩ : ByteArray)).size + x2.size ≤ 9223372036854775807 then (if x7.size + ((x1 ++ (⟨#[46]⟩ : ByteArray)) ++ x2).size ≤ 9223372036854775807 then ((impl_FileAndExt.f (x7 ++ ((x1 ++ (⟨#[46]⟩ : ByteArray)) ++ x2))).bind fun bt120 => ((impl_FileAndExtNoDelimiter.f (x7 ++ ((x1 ++ (⟨#[46]⟩ : ByteArray)) ++ x2))).bind fun bt122 => (if bt120.1.toList = x1.toList then (if 1 + x2.size ≤ 9223372036854775807 then (if bt120.2.toList = ((⟨#[46]⟩ : ByteArray) ++ x2).toList then (if bt122.1.toList = x1.toList then (if bt122.2.toList = x2.toList then ((impl_Ext.f (x7 ++ ((x1 ++ (⟨#[46]⟩ : ByteArray)) ++ x2))).bind fun t124 => (if t124.toList = ((⟨#[46]⟩ : ByteArray) ++ x2).toList then ((impl_ExtNoDelimiter.f (x7 ++ ((x1 ++ (⟨#[46]⟩ : ByteArray)) ++ x2))).bind fun t125 => (if t125.toList = x2.toList then ((impl_Filename.f (x7 ++ ((x1 ++ (⟨#[46]⟩ : ByteArray)) ++ x2))).bind fun t126 => (some (t126.toList == x1.toList))) else (some false))) else (some false))) else (some false)) else (some false)) else (some false)) else (none)) else (some false)))) else (none)) else (none)) else (none))
end
def laws_FnNameBuilt.f (k : Nat) (l0 : List ByteArray) (a1 : ByteArray) (a2 : ByteArray) : Option (Bool) := (laws_zzFits3.f k l0).bind fun t113 => (if t113 = true then (if (a1.size : Int) > 2147483647 then (laws_FnNameBuilt.j0 k l0 a1 a2 true) else (laws_FnNameBuilt.j0 k l0 a1 a2 (decide ((a2.size : Int) > 2147483647)))) else (laws_FnNameBuilt.j0 k l0 a1 a2 true))
theorem laws_FnNameBuilt.mono_l : ∀ k, (∀ y0 y1 y2 y3, LeO (laws_FnNameBuilt.j0 k y0 y1 y2 y3) (laws_FnNameBuilt.j0 (k + 1) y0 y1 y2 y3)) ∧ (∀ y0 y1 y2 y3, LeO (laws_FnNameBuilt.j1 k y0 y1 y2 y3) (laws_FnNameBuilt.j1 (k + 1) y0 y1 y2 y3)) ∧ (∀ y0 y1 y2 y3 y4 y5, LeO (laws_FnNameBuilt.l0 k y0 y1 y2 y3 y4 y5) (laws_FnNameBuilt.l0 (k + 1) y0 y1 y2 y3 y4 y5))
  | 0 => ⟨fun _ _ _ _ r h => by simp [laws_FnNameBuilt.j0] at h, fun _ _ _ _ r h => by simp [laws_FnNameBuilt.j1] at h, fun _ _ _ _ _ _ r h => by simp [laws_FnNameBuilt.l0] at h⟩
  | k + 1 => by
    obtain ⟨ih0, ih1, ih2⟩ := laws_FnNameBuilt.mono_l k
    refine ⟨?_, ?_, ?_⟩
    · intro y0 y1 y2 y3
      unfold laws_FnNameBuilt.j0
      repeat' first
      | (with_reducible exact ih0 _ _ _ _)
      | (with_reducible exact ih1 _ _ _ _)
      | (with_reducible exact ih2 _ _ _ _ _ _)
      | (with_reducible exact laws_has.mono _ _ _)
      | (with_reducible exact laws_zzFits3.mono _ _)
      | (with_reducible exact LeO.refl _)
      | (with_reducible exact LeO.none _)
      | (with_reducible refine LeO.ite ?_ ?_)
      | (with_reducible refine LeO.bind ?_ (fun _ => ?_))
      | exact ih0 _ _ _ _
      | exact ih1 _ _ _ _
      | exact ih2 _ _ _ _ _ _
      | exact laws_has.mono _ _ _
      | exact laws_zzFits3.mono _ _
      | exact LeO.none _
      | refine LeO.ite ?_ ?_
      | refine LeO.bind ?_ (fun _ => ?_)
    · intro y0 y1 y2 y3
      unfold laws_FnNameBuilt.j1
      repeat' first
      | (with_reducible exact ih0 _ _ _ _)
      | (with_reducible exact ih1 _ _ _ _)
      | (with_reducible exact ih2 _ _ _ _ _ _)
      | (with_reducible exact laws_has.mono _ _ _)
      | (with_reducible exact laws_zzFits3.mono _ _)
      | (with_reducible exact LeO.refl _)
      | (with_reducible exact LeO.none _)
      | (with_reducible refine LeO.ite ?_ ?_)
      | (with_reducible refine LeO.bind ?_ (fun _ => ?_))
      | exact ih0 _ _ _ _
      | exact ih1 _ _ _ _
      | exact ih2 _ _ _ _ _ _
      | exact laws_has.mono _ _ _
      | exact laws_zzFits3.mono _ _
      | exact LeO.none _
      | refine LeO.ite ?_ ?_
      | refine LeO.bind ?_ (fun _ => ?_)
    · intro y0 y1 y2 y3 y4 y5
      unfold laws_FnNameBuilt.l0
      repeat' first
      | (with_reducible exact ih0 _ _ _ _)
      | (with_reducible exact ih1 _ _ _ _)
      | (with_reducible exact ih2 _ _ _ _ _ _)
      | (with_reducible exact laws_has.mono _ _ _)
      | (with_reducible exact laws_zzFits3.mono _ _)
      | (with_reducible exact LeO.refl _)
      | (with_reducible exact LeO.none _)
      | (with_reducible refine LeO.ite ?_ ?_)
      | (with_reducible refine LeO.bind ?_ (fun _ => ?_))
      | exact ih0 _ _ _ _
      | exact ih1 _ _ _ _
      | exact ih2 _ _ _ _ _ _
      | exact laws_has.mono _ _ _
      | exact laws_zzFits3.mono _ _
      | exact LeO.none _
      | refine LeO.ite ?_ ?_
      | refine LeO.bind ?_ (fun _ => ?_)
theorem laws_FnNameBuilt.mono : ∀ a0 a1 a2 k, LeO (laws_FnNameBuilt.f k a0 a1 a2) (laws_FnNameBuilt.f (k + 1) a0 a1 a2) := by
  intro a0 a1 a2 k
  obtain ⟨ih0, ih1, ih2⟩ := laws_FnNameBuilt.mono_l k
  unfold laws_FnNameBuilt.f
  repeat' first
      | (with_reducible exact ih0 _ _ _ _)
      | (with_reducible exact ih1 _ _ _ _)
      | (with_reducible exact ih2 _ _ _ _ _ _)
      | (with_reducible exact laws_has.mono _ _ _)
      | (with_reducible exact laws_zzFits3.mono _ _)
      | (with_reducible exact LeO.refl _)
      | (with_reducible exact LeO.none _)
      | (with_reducible refine LeO.ite ?_ ?_)
      | (with_reducible refine LeO.bind ?_ (fun _ => ?_))
      | exact ih0 _ _ _ _
      | exact ih1 _ _ _ _
      | exact ih2 _ _ _ _ _ _
      | exact laws_has.mono _ _ _
      | exact laws_zzFits3.mono _ _
      | exact LeO.none _
      | refine LeO.ite ?_ ?_
      | refine LeO.bind ?_ (fun _ => ?_)
set_option maxHeartbeats 8000000 in
set_option maxRecDepth 100000 in
theorem laws_FnNameBuilt.calls (k : Nat) (A0 : Option Addr) (c0 : Nat) (l0 : List ByteArray) (a1 : ByteArray) (a2 : ByteArray) (r : Bool) (w : World) (hr0 : Kd.C Kd.string w A0 l0.length l0) (hc0 : l0.length ≤ c0) (h : laws_FnNameBuilt.f k l0 a1 a2 = some r) :
    Calls Tryd.prog 4 #[.slice A0 l0.length c0, .string a1, .string a2] w fun e w' => e = .returned (.bool r) ∧ Below w.heap.size w w' := by
  have HR0 := Aside0.mk hr0
  have HC0 := Aside0.mk hc0
  clear hr0 hc0
  have HB := Aside0.mk (Below.refl w.heap.size w)
  have H : ((laws_zzFits3.f k l0).bind fun t113 => (if t113 = true then (if (a1.size : Int) > 2147483647 then (laws_FnNameBuilt.j0 k l0 a1 a2 true) else (laws_FnNameBuilt.j0 k l0 a1 a2 (decide ((a2.size : Int) > 2147483647)))) else (laws_FnNameBuilt.j0 k l0 a1 a2 true))) = some r := h
  clear h
  have HC4 := Aside0.mk H
  clear H
  go_enter Tryd.func4, Tryd.ntmps4
  go_upto_region 1 with (fail)
  go_cut [26] (fun v26 wc => ∃ (kq : Nat) (x26_3 : Bool), v26 = .bool x26_3 ∧ Aside0 (laws_FnNameBuilt.j0 kq l0 a1 a2 x26_3 = some r) ∧ Aside0 (kq ≤ k) ∧ Aside0 (Below w.heap.size w wc))
  case first =>
    have H := HC4.out
    clear HC4
    replace H := Option.bind_eq_some_iff.mp H
    obtain ⟨t113, A50, H⟩ := H
    replace H : (if t113 = true then (if (a1.size : Int) > 2147483647 then (laws_FnNameBuilt.j0 k l0 a1 a2 true) else (laws_FnNameBuilt.j0 k l0 a1 a2 (decide ((a2.size : Int) > 2147483647)))) else (laws_FnNameBuilt.j0 k l0 a1 a2 true)) = some r := H
    have A5 := Aside0.mk A50
    clear A50
    by_cases c6 : t113 = true
    · subst c6
      have H1 : (if (a1.size : Int) > 2147483647 then (laws_FnNameBuilt.j0 k l0 a1 a2 true) else (laws_FnNameBuilt.j0 k l0 a1 a2 (decide ((a2.size : Int) > 2147483647)))) = some r := by rw [if_pos rfl] at H; exact H
      clear H
      have H := H1
      clear H1
      by_cases c7 : (a1.size : Int) > 2147483647
      · rw [if_pos c7] at H
        have c7b0 : decide (2147483647 < (a1.size : Int)) = true := decide_eq_true c7
        have c7b1 : decide (2147483647 < a1.size) = true := decide_eq_true (by omega)
        clear c7
        (first | rw [c7b0] | (simp only [i64_w, i32_w]; rw [c7b0]) | skip)
        have H' := Aside0.mk H
        clear H
        go_wp2_with (first | ((with_reducible refine gate_callee (f := 12) rfl ?_); refine goesL_ (some 15) rfl rfl Tryd.func12 (by kernel_rfl) rfl #[.slice A0 l0.length c0] rfl (by (try simp only [List.map_toArray, List.map_cons, List.map_nil]); first | done | rfl | (simp only [List.length_drop, List.length_take]; rfl)) ?_; (with_reducible refine (laws_zzFits3.calls k _ _ l0 true _ ?side1 ?side2 A5.out).mono ?_); (case side1 => repeat (first | exact (Kd.C_below HR0.out HB.out) | (with_reducible refine Kd.C_alloc ?_ _) | (with_reducible refine Kd.C_drewN ?_ _) | (with_reducible refine Kd.C_drew ?_))); (case side2 => exact HC0.out); rintro e w' ⟨rfl, ⟨nd, rfl⟩⟩; refine ⟨_, rfl, ?_⟩))
        go_meet
        case rel => exact ⟨_, (true), (by first | rfl | (simp; done) | (simp [*]; done)), H', ⟨by first | omega | exact Nat.le_refl _⟩, ⟨by repeat (first | (with_reducible first | exact HB.out | apply below_alloc | apply pw_below_drewN | apply below_drew1) | exact HB.out)⟩⟩
      · rw [if_neg c7] at H
        have c7b0 : decide (2147483647 < (a1.size : Int)) = false := decide_eq_false c7
        have c7b1 : decide (2147483647 < a1.size) = false := decide_eq_false (by omega)
        clear c7
        (first | rw [c7b0] | (simp only [i64_w, i32_w]; rw [c7b0]) | skip)
        have H' := Aside0.mk H
        clear H
        go_wp2_with (first | ((with_reducible refine gate_callee (f := 12) rfl ?_); refine goesL_ (some 15) rfl rfl Tryd.func12 (by kernel_rfl) rfl #[.slice A0 l0.length c0] rfl (by (try simp only [List.map_toArray, List.map_cons, List.map_nil]); first | done | rfl | (simp only [List.length_drop, List.length_take]; rfl)) ?_; (with_reducible refine (laws_zzFits3.calls k _ _ l0 true _ ?side1 ?side2 A5.out).mono ?_); (case side1 => repeat (first | exact (Kd.C_below HR0.out HB.out) | (with_reducible refine Kd.C_alloc ?_ _) | (with_reducible refine Kd.C_drewN ?_ _) | (with_reducible refine Kd.C_drew ?_))); (case side2 => exact HC0.out); rintro e w' ⟨rfl, ⟨nd, rfl⟩⟩; refine ⟨_, rfl, ?_⟩))
        go_meet
        case rel => exact ⟨_, (decide ((a2.size : Int) > 2147483647)), (by first | rfl | (simp; done) | (simp [*]; done)), H', ⟨by first | omega | exact Nat.le_refl _⟩, ⟨by repeat (first | (with_reducible first | exact HB.out | apply below_alloc | apply pw_below_drewN | apply below_drew1) | exact HB.out)⟩⟩
    · replace c6 := Bool.eq_false_iff.mpr c6
      subst c6
      have H1 : (laws_FnNameBuilt.j0 k l0 a1 a2 true) = some r := by rw [if_neg (show ¬ (false = true) by decide)] at H; exact H
      clear H
      have H := H1
      clear H1
      have H' := Aside0.mk H
      clear H
      go_wp2_with (first | ((with_reducible refine gate_callee (f := 12) rfl ?_); refine goesL_ (some 15) rfl rfl Tryd.func12 (by kernel_rfl) rfl #[.slice A0 l0.length c0] rfl (by (try simp only [List.map_toArray, List.map_cons, List.map_nil]); first | done | rfl | (simp only [List.length_drop, List.length_take]; rfl)) ?_; (with_reducible refine (laws_zzFits3.calls k _ _ l0 false _ ?side1 ?side2 A5.out).mono ?_); (case side1 => repeat (first | exact (Kd.C_below HR0.out HB.out) | (with_reducible refine Kd.C_alloc ?_ _) | (with_reducible refine Kd.C_drewN ?_ _) | (with_reducible refine Kd.C_drew ?_))); (case side2 => exact HC0.out); rintro e w' ⟨rfl, ⟨nd, rfl⟩⟩; refine ⟨_, rfl, ?_⟩))
      go_meet
      case rel => exact ⟨_, (true), (by first | rfl | (simp; done) | (simp [*]; done)), H', ⟨by first | omega | exact Nat.le_refl _⟩, ⟨by repeat (first | (with_reducible first | exact HB.out | apply below_alloc | apply pw_below_drewN | apply below_drew1) | exact HB.out)⟩⟩
  case rest =>
    clear HC4
    try clear c1
    try clear p2
    try clear c4
    try clear c6
    try clear c7
    try clear c7b0
    try clear c7b1
    obtain ⟨kq, x26_3, rfl, HA, HJ3, HB⟩ := hcut
    cases kq with
    | zero => exact absurd HA.out (by simp [laws_FnNameBuilt.j0])
    | succ kj3 =>
      have H := HA.out
      clear HA
      simp only [laws_FnNameBuilt.j0] at H
      by_cases c8 : x26_3 = true
      · subst c8
        have H1 : (some true) = some r := by rw [if_pos rfl] at H; exact H
        clear H
        have H := H1
        clear H1
        obtain rfl := Option.some.inj H
        go_wp2
        go_ret
        exact ⟨by first | rfl | (simp [errW_none, errW_some] <;> rfl) | (simp [*, errW_none, errW_some] <;> rfl), by repeat (first | (with_reducible first | exact HB.out | apply below_alloc | apply pw_below_drewN | apply below_drew1) | exact HB.out)⟩
      · replace c8 := Bool.eq_false_iff.mpr c8
        subst c8
        have H1 : (if (l0.length : Int) > 2000 then (laws_FnNameBuilt.j1 kj3 l0 a1 a2 true) else (if a1.toList = ([] : List UInt8) then (laws_FnNameBuilt.j1 kj3 l0 a1 a2 true) else (if a1.toList = ([46] : List UInt8) then (laws_FnNameBuilt.j1 kj3 l0 a1 a2 true) else (if a1.toList = ([46, 46] : List UInt8) then (laws_FnNameBuilt.j1 kj3 l0 a1 a2 true) else ((laws_has.f kj3 a1 (⟨#[47]⟩ : ByteArray)).bind fun t114 => (if t114 = true then (laws_FnNameBuilt.j1 kj3 l0 a1 a2 true) else ((laws_has.f kj3 a2 (⟨#[47]⟩ : ByteArray)).bind fun t115 => (if t115 = true then (laws_FnNameBuilt.j1 kj3 l0 a1 a2 true) else ((laws_has.f kj3 a2 (⟨#[46]⟩ : ByteArray)).bind fun t116 => (if t116 = true then (laws_FnNameBuilt.j1 kj3 l0 a1 a2 true) else ((laws_has.f kj3 a1 (⟨#[46]⟩ : ByteArray)).bind fun t117 => (if t117 = true then (if 0 < (a1.size : Int) then (laws_FnNameBuilt.j1 kj3 l0 a1 a2 ((bt a1 0) == 46)) else (none)) else (laws_FnNameBuilt.j1 kj3 l0 a1 a2 false))))))))))))) = some r := by rw [if_neg (show ¬ (false = true) by decide)] at H; exact H
        clear H
        have H := H1
        clear H1
        have HC9 := Aside0.mk H
        clear H
        go_upto_region 3 with (fail)
        go_cut [62] (fun v62 wc => ∃ (kq : Nat) (x62_8 : Bool), v62 = .bool x62_8 ∧ Aside0 (laws_FnNameBuilt.j1 kq l0 a1 a2 x62_8 = some r) ∧ Aside0 (kq ≤ kj3) ∧ Aside0 (Below w.heap.size w wc))
        case first =>
          have H := HC9.out
          clear HC9
          by_cases c10 : (l0.length : Int) > 2000
          · rw [if_pos c10] at H
            have c10b0 : decide (2000 < (l0.length : Int)) = true := decide_eq_true c10
            have c10b1 : decide (2000 < l0.length) = true := decide_eq_true (by omega)
            clear c10
            (first | rw [c10b0] | (simp only [i64_w, i32_w]; rw [c10b0]) | skip)
            have H' := Aside0.mk H
            clear H
            go_wp2
            go_meet
            case rel => exact ⟨_, (true), (by first | rfl | (simp; done) | (simp [*]; done)), H', ⟨by have := HJ3.out; first | omega | exact Nat.le_refl _⟩, ⟨by repeat (first | (with_reducible first | exact HB.out | apply below_alloc | apply pw_below_drewN | apply below_drew1) | exact HB.out)⟩⟩
          · rw [if_neg c10] at H
            have c10b0 : decide (2000 < (l0.length : Int)) = false := decide_eq_false c10
            have c10b1 : decide (2000 < l0.length) = false := decide_eq_false (by omega)
            clear c10
            (first | rw [c10b0] | (simp only [i64_w, i32_w]; rw [c10b0]) | skip)
            by_cases c11 : a1.toList = ([] : List UInt8)
            · rw [if_pos c11] at H
              have c11b0 : (a1.toList == ([] : List UInt8)) = true := beq_iff_eq.mpr c11
              have c11b1 : (a1.toList != ([] : List UInt8)) = false := bne_eq_false_iff_eq.mpr c11
              clear c11
              have H' := Aside0.mk H
              clear H
              go_wp2
              go_meet
              case rel => exact ⟨_, (true), (by first | rfl | (simp; done) | (simp [*]; done)), H', ⟨by have := HJ3.out; first | omega | exact Nat.le_refl _⟩, ⟨by repeat (first | (with_reducible first | exact HB.out | apply below_alloc | apply pw_below_drewN | apply below_drew1) | exact HB.out)⟩⟩
            · rw [if_neg c11] at H
              have c11b0 : (a1.toList == ([] : List UInt8)) = false := beq_eq_false_iff_ne.mpr c11
              have c11b1 : (a1.toList != ([] : List UInt8)) = true := bne_iff_ne.mpr c11
              by_cases c12 : a1.toList = ([46] : List UInt8)
              · rw [if_pos c12] at H
                have c12b0 : (a1.toList == ([46] : List UInt8)) = true := beq_iff_eq.mpr c12
                have c12b1 : (a1.toList != ([46] : List UInt8)) = false := bne_eq_false_iff_eq.mpr c12
                clear c12
                have H' := Aside0.mk H
                clear H
                go_wp2
                go_meet
                case rel => exact ⟨_, (true), (by first | rfl | (simp; done) | (simp [*]; done)), H', ⟨by have := HJ3.out; first | omega | exact Nat.le_refl _⟩, ⟨by repeat (first | (with_reducible first | exact HB.out | apply below_alloc | apply pw_below_drewN | apply below_drew1) | exact HB.out)⟩⟩
              · rw [if_neg c12] at H
                have c12b0 : (a1.toList == ([46] : List UInt8)) = false := beq_eq_false_iff_ne.mpr c12
                have c12b1 : (a1.toList != ([46] : List UInt8)) = true := bne_iff_ne.mpr c12
                by_cases c13 : a1.toList = ([46, 46] : List UInt8)
                · rw [if_pos c13] at H
                  have c13b0 : (a1.toList == ([46, 46] : List UInt8)) = true := beq_iff_eq.mpr c13
                  have c13b1 : (a1.toList != ([46, 46] : List UInt8)) = false := bne_eq_false_iff_eq.mpr c13
                  clear c13
                  have H' := Aside0.mk H
                  clear H
                  go_wp2
                  go_meet
                  case rel => exact ⟨_, (true), (by first | rfl | (simp; done) | (simp [*]; done)), H', ⟨by have := HJ3.out; first | omega | exact Nat.le_refl _⟩, ⟨by repeat (first | (with_reducible first | exact HB.out | apply below_alloc | apply pw_below_drewN | apply below_drew1) | exact HB.out)⟩⟩
                · rw [if_neg c13] at H
                  have c13b0 : (a1.toList == ([46, 46] : List UInt8)) = false := beq_eq_false_iff_ne.mpr c13
                  have c13b1 : (a1.toList != ([46, 46] : List UInt8)) = true := bne_iff_ne.mpr c13
                  replace H := Option.bind_eq_some_iff.mp H
                  obtain ⟨t114, A140, H⟩ := H
                  replace H : (if t114 = true then (laws_FnNameBuilt.j1 kj3 l0 a1 a2 true) else ((laws_has.f kj3 a2 (⟨#[47]⟩ : ByteArray)).bind fun t115 => (if t115 = true then (laws_FnNameBuilt.j1 kj3 l0 a1 a2 true) else ((laws_has.f kj3 a2 (⟨#[46]⟩ : ByteArray)).bind fun t116 => (if t116 = true then (laws_FnNameBuilt.j1 kj3 l0 a1 a2 true) else ((laws_has.f kj3 a1 (⟨#[46]⟩ : ByteArray)).bind fun t117 => (if t117 = true then (if 0 < (a1.size : Int) then (laws_FnNameBuilt.j1 kj3 l0 a1 a2 ((bt a1 0) == 46)) else (none)) else (laws_FnNameBuilt.j1 kj3 l0 a1 a2 false)))))))) = some r := H
                  have A14 := Aside0.mk A140
                  clear A140
                  by_cases c15 : t114 = true
                  · subst c15
                    have H1 : (laws_FnNameBuilt.j1 kj3 l0 a1 a2 true) = some r := by rw [if_pos rfl] at H; exact H
                    clear H
                    have H := H1
                    clear H1
                    have H' := Aside0.mk H
                    clear H
                    go_wp2_with (first | (go_at_call 11; (with_reducible refine (laws_has.calls kj3 a1 (⟨#[47]⟩ : ByteArray) true _ A14.out).mono ?_); rintro e w' ⟨rfl, ⟨nd, rfl⟩⟩))
                    go_meet
                    case rel => exact ⟨_, (true), (by first | rfl | (simp; done) | (simp [*]; done)), H', ⟨by have := HJ3.out; first | omega | exact Nat.le_refl _⟩, ⟨by repeat (first | (with_reducible first | exact HB.out | apply below_alloc | apply pw_below_drewN | apply below_drew1) | exact HB.out)⟩⟩
                  · replace c15 := Bool.eq_false_iff.mpr c15
                    subst c15
                    have H1 : ((laws_has.f kj3 a2 (⟨#[47]⟩ : ByteArray)).bind fun t115 => (if t115 = true then (laws_FnNameBuilt.j1 kj3 l0 a1 a2 true) else ((laws_has.f kj3 a2 (⟨#[46]⟩ : ByteArray)).bind fun t116 => (if t116 = true then (laws_FnNameBuilt.j1 kj3 l0 a1 a2 true) else ((laws_has.f kj3 a1 (⟨#[46]⟩ : ByteArray)).bind fun t117 => (if t117 = true then (if 0 < (a1.size : Int) then (laws_FnNameBuilt.j1 kj3 l0 a1 a2 ((bt a1 0) == 46)) else (none)) else (laws_FnNameBuilt.j1 kj3 l0 a1 a2 false))))))) = some r := by rw [if_neg (show ¬ (false = true) by decide)] at H; exact H
                    clear H
                    have H := H1
                    clear H1
                    replace H := Option.bind_eq_some_iff.mp H
                    obtain ⟨t115, A160, H⟩ := H
                    replace H : (if t115 = true then (laws_FnNameBuilt.j1 kj3 l0 a1 a2 true) else ((laws_has.f kj3 a2 (⟨#[46]⟩ : ByteArray)).bind fun t116 => (if t116 = true then (laws_FnNameBuilt.j1 kj3 l0 a1 a2 true) else ((laws_has.f kj3 a1 (⟨#[46]⟩ : ByteArray)).bind fun t117 => (if t117 = true then (if 0 < (a1.size : Int) then (laws_FnNameBuilt.j1 kj3 l0 a1 a2 ((bt a1 0) == 46)) else (none)) else (laws_FnNameBuilt.j1 kj3 l0 a1 a2 false)))))) = some r := H
                    have A16 := Aside0.mk A160
                    clear A160
                    by_cases c17 : t115 = true
                    · subst c17
                      have H1 : (laws_FnNameBuilt.j1 kj3 l0 a1 a2 true) = some r := by rw [if_pos rfl] at H; exact H
                      clear H
                      have H := H1
                      clear H1
                      have H' := Aside0.mk H
                      clear H
                      go_wp2_with (first | (go_at_call 11; (with_reducible refine (laws_has.calls kj3 a1 (⟨#[47]⟩ : ByteArray) false _ A14.out).mono ?_); rintro e w' ⟨rfl, ⟨nd, rfl⟩⟩) | (go_at_call 11; (with_reducible refine (laws_has.calls kj3 a2 (⟨#[47]⟩ : ByteArray) true _ A16.out).mono ?_); rintro e w' ⟨rfl, ⟨nd, rfl⟩⟩))
                      go_meet
                      case rel => exact ⟨_, (true), (by first | rfl | (simp; done) | (simp [*]; done)), H', ⟨by have := HJ3.out; first | omega | exact Nat.le_refl _⟩, ⟨by repeat (first | (with_reducible first | exact HB.out | apply below_alloc | apply pw_below_drewN | apply below_drew1) | exact HB.out)⟩⟩
                    · replace c17 := Bool.eq_false_iff.mpr c17
                      subst c17
                      have H1 : ((laws_has.f kj3 a2 (⟨#[46]⟩ : ByteArray)).bind fun t116 => (if t116 = true then (laws_FnNameBuilt.j1 kj3 l0 a1 a2 true) else ((laws_has.f kj3 a1 (⟨#[46]⟩ : ByteArray)).bind fun t117 => (if t117 = true then (if 0 < (a1.size : Int) then (laws_FnNameBuilt.j1 kj3 l0 a1 a2 ((bt a1 0) == 46)) else (none)) else (laws_FnNameBuilt.j1 kj3 l0 a1 a2 false))))) = some r := by rw [if_neg (show ¬ (false = true) by decide)] at H; exact H
                      clear H
                      have H := H1
                      clear H1
                      replace H := Option.bind_eq_some_iff.mp H
                      obtain ⟨t116, A180, H⟩ := H
                      replace H : (if t116 = true then (laws_FnNameBuilt.j1 kj3 l0 a1 a2 true) else ((laws_has.f kj3 a1 (⟨#[46]⟩ : ByteArray)).bind fun t117 => (if t117 = true then (if 0 < (a1.size : Int) then (laws_FnNameBuilt.j1 kj3 l0 a1 a2 ((bt a1 0) == 46)) else (none)) else (laws_FnNameBuilt.j1 kj3 l0 a1 a2 false)))) = some r := H
                      have A18 := Aside0.mk A180
                      clear A180
                      by_cases c19 : t116 = true
                      · subst c19
                        have H1 : (laws_FnNameBuilt.j1 kj3 l0 a1 a2 true) = some r := by rw [if_pos rfl] at H; exact H
                        clear H
                        have H := H1
                        clear H1
                        have H' := Aside0.mk H
                        clear H
                        go_wp2_with (first | (go_at_call 11; (with_reducible refine (laws_has.calls kj3 a1 (⟨#[47]⟩ : ByteArray) false _ A14.out).mono ?_); rintro e w' ⟨rfl, ⟨nd, rfl⟩⟩) | (go_at_call 11; (with_reducible refine (laws_has.calls kj3 a2 (⟨#[47]⟩ : ByteArray) false _ A16.out).mono ?_); rintro e w' ⟨rfl, ⟨nd, rfl⟩⟩) | (go_at_call 11; (with_reducible refine (laws_has.calls kj3 a2 (⟨#[46]⟩ : ByteArray) true _ A18.out).mono ?_); rintro e w' ⟨rfl, ⟨nd, rfl⟩⟩))
                        go_meet
                        case rel => exact ⟨_, (true), (by first | rfl | (simp; done) | (simp [*]; done)), H', ⟨by have := HJ3.out; first | omega | exact Nat.le_refl _⟩, ⟨by repeat (first | (with_reducible first | exact HB.out | apply below_alloc | apply pw_below_drewN | apply below_drew1) | exact HB.out)⟩⟩
                      · replace c19 := Bool.eq_false_iff.mpr c19
                        subst c19
                        have H1 : ((laws_has.f kj3 a1 (⟨#[46]⟩ : ByteArray)).bind fun t117 => (if t117 = true then (if 0 < (a1.size : Int) then (laws_FnNameBuilt.j1 kj3 l0 a1 a2 ((bt a1 0) == 46)) else (none)) else (laws_FnNameBuilt.j1 kj3 l0 a1 a2 false))) = some r := by rw [if_neg (show ¬ (false = true) by decide)] at H; exact H
                        clear H
                        have H := H1
                        clear H1
                        replace H := Option.bind_eq_some_iff.mp H
                        obtain ⟨t117, A200, H⟩ := H
                        replace H : (if t117 = true then (if 0 < (a1.size : Int) then (laws_FnNameBuilt.j1 kj3 l0 a1 a2 ((bt a1 0) == 46)) else (none)) else (laws_FnNameBuilt.j1 kj3 l0 a1 a2 false)) = some r := H
                        have A20 := Aside0.mk A200
                        clear A200
                        by_cases c21 : t117 = true
                        · subst c21
                          have H1 : (if 0 < (a1.size : Int) then (laws_FnNameBuilt.j1 kj3 l0 a1 a2 ((bt a1 0) == 46)) else (none)) = some r := by rw [if_pos rfl] at H; exact H
                          clear H
                          have H := H1
                          clear H1
                          by_cases c22 : 0 < (a1.size : Int)
                          · rw [if_pos c22] at H
                            have c22b0 : decide (0 < (a1.size : Int)) = true := decide_eq_true c22
                            have c22b1 : decide (0 < a1.size) = true := decide_eq_true (by omega)
                            clear c22
                            have H' := Aside0.mk H
                            clear H
                            go_wp2_with (first | (go_at_call 11; (with_reducible refine (laws_has.calls kj3 a1 (⟨#[47]⟩ : ByteArray) false _ A14.out).mono ?_); rintro e w' ⟨rfl, ⟨nd, rfl⟩⟩) | (go_at_call 11; (with_reducible refine (laws_has.calls kj3 a2 (⟨#[47]⟩ : ByteArray) false _ A16.out).mono ?_); rintro e w' ⟨rfl, ⟨nd, rfl⟩⟩) | (go_at_call 11; (with_reducible refine (laws_has.calls kj3 a2 (⟨#[46]⟩ : ByteArray) false _ A18.out).mono ?_); rintro e w' ⟨rfl, ⟨nd, rfl⟩⟩) | (go_at_call 11; (with_reducible refine (laws_has.calls kj3 a1 (⟨#[46]⟩ : ByteArray) true _ A20.out).mono ?_); rintro e w' ⟨rfl, ⟨nd, rfl⟩⟩; have p23 : 0 ≤ (0 : Int) := (by omega); have q23 : 0 < a1.size := (by have : (0 : Int) < (a1.size : Int) := of_decide_eq_true (by first | (with_reducible assumption) | assumption); omega); have hx23 : ∀ h : 0 < a1.size, ((a1[0]'h).toNat : Int) = bt a1 0 := bt_at a1 0; clear p23; have qi23 : (0 < (a1.size : Int)) = True := eq_true (of_decide_eq_true (by first | (with_reducible assumption) | assumption)); replace q23 := eq_true q23))
                            go_meet
                            case rel => exact ⟨_, (((bt a1 0) == 46)), (by first | rfl | (simp; done) | (simp [*]; done)), H', ⟨by have := HJ3.out; first | omega | exact Nat.le_refl _⟩, ⟨by repeat (first | (with_reducible first | exact HB.out | apply below_alloc | apply pw_below_drewN | apply below_drew1) | exact HB.out)⟩⟩
                          · rw [if_neg c22] at H
                            exact absurd H (by simp)
                        · replace c21 := Bool.eq_false_iff.mpr c21
                          subst c21
                          have H1 : (laws_FnNameBuilt.j1 kj3 l0 a1 a2 false) = some r := by rw [if_neg (show ¬ (false = true) by decide)] at H; exact H
                          clear H
                          have H := H1
                          clear H1
                          have H' := Aside0.mk H
                          clear H
                          go_wp2_with (first | (go_at_call 11; (with_reducible refine (laws_has.calls kj3 a1 (⟨#[47]⟩ : ByteArray) false _ A14.out).mono ?_); rintro e w' ⟨rfl, ⟨nd, rfl⟩⟩) | (go_at_call 11; (with_reducible refine (laws_has.calls kj3 a2 (⟨#[47]⟩ : ByteArray) false _ A16.out).mono ?_); rintro e w' ⟨rfl, ⟨nd, rfl⟩⟩) | (go_at_call 11; (with_reducible refine (laws_has.calls kj3 a2 (⟨#[46]⟩ : ByteArray) false _ A18.out).mono ?_); rintro e w' ⟨rfl, ⟨nd, rfl⟩⟩) | (go_at_call 11; (with_reducible refine (laws_has.calls kj3 a1 (⟨#[46]⟩ : ByteArray) false _ A20.out).mono ?_); rintro e w' ⟨rfl, ⟨nd, rfl⟩⟩))
                          go_meet
                          case rel => exact ⟨_, (false), (by first | rfl | (simp; done) | (simp [*]; done)), H', ⟨by have := HJ3.out; first | omega | exact Nat.le_refl _⟩, ⟨by repeat (first | (with_reducible first | exact HB.out | apply below_alloc | apply pw_below_drewN | apply below_drew1) | exact HB.out)⟩⟩
        case rest =>
          clear HC9
          try clear c1
          try clear c2
          try clear p2
          try clear q2
          try clear hx2
          try clear qi2
          try clear c4
          try clear c6
          try clear c7
          try clear c7b0
          try clear c7b1
          try clear c8
          try clear c10
          try clear c10b0
          try clear c10b1
          try clear c11
          try clear c11b0
          try clear c11b1
          try clear c12
          try clear c12b0
          try clear c12b1
          try clear c13
          try clear c13b0
          try clear c13b1
          try clear c15
          try clear c17
          try clear c19
          try clear c21
          try clear c22
          try clear c22b0
          try clear c22b1
          try clear p23
          try clear q23
          try clear hx23
          try clear qi23
          try clear p2
          try clear p23
          try clear q23
          obtain ⟨kq, x62_8, rfl, HA, HJ8, HB⟩ := hcut
          cases kq with
          | zero => exact absurd HA.out (by simp [laws_FnNameBuilt.j1])
          | succ kj8 =>
            have H := HA.out
            clear HA
            simp only [laws_FnNameBuilt.j1] at H
            by_cases c24 : x62_8 = true
            · subst c24
              have H1 : (some true) = some r := by rw [if_pos rfl] at H; exact H
              clear H
              have H := H1
              clear H1
              obtain rfl := Option.some.inj H
              go_wp2
              go_ret
              exact ⟨by first | rfl | (simp [errW_none, errW_some] <;> rfl) | (simp [*, errW_none, errW_some] <;> rfl), by repeat (first | (with_reducible first | exact HB.out | apply below_alloc | apply pw_below_drewN | apply below_drew1) | exact HB.out)⟩
            · replace c24 := Bool.eq_false_iff.mpr c24
              subst c24
              have H1 : (laws_FnNameBuilt.l0 kj8 a1 a2 (⟨#[]⟩ : ByteArray) l0 (l0.length : Int) 0) = some r := by rw [if_neg (show ¬ (false = true) by decide)] at H; exact H
              clear H
              have H := H1
              clear H1
              have H' := Aside0.mk H
              clear H
              go_wp2
              try simp only [Act.put, List.setIfInBounds_toArray, List.set_cons_succ, List.set_cons_zero]
              go_loopg [7, 65] kj8 (fun kq v7 v65 w' => ∃ (x7_3 : ByteArray) (x65_3 : Int), v7 = .string x7_3 ∧ v65 = .int .i64 x65_3 ∧ Aside0 (laws_FnNameBuilt.l0 kq a1 a2 x7_3 l0 (l0.length : Int) x65_3 = some r) ∧ Aside0 (kq ≤ kj8) ∧ Aside0 (Below w.heap.size w w'))
              case atStart => exact ⟨((⟨#[]⟩ : ByteArray)), (0), (by first | rfl | (simp; done) | (simp [*]; done)), (by first | rfl | (simp; done) | (simp [*]; done)), H', ⟨Nat.le_refl _⟩, ⟨by repeat (first | (with_reducible first | exact HB.out | apply below_alloc | apply pw_below_drewN | apply below_drew1) | exact HB.out)⟩⟩
              case round =>
                clear H'
                try clear c1
                try clear c2
                try clear p2
                try clear q2
                try clear hx2
                try clear qi2
                try clear c4
                try clear c6
                try clear c7
                try clear c7b0
                try clear c7b1
                try clear c8
                try clear c10
                try clear c10b0
                try clear c10b1
                try clear c11
                try clear c11b0
                try clear c11b1
                try clear c12
                try clear c12b0
                try clear c12b1
                try clear c13
                try clear c13b0
                try clear c13b1
                try clear c15
                try clear c17
                try clear c19
                try clear c21
                try clear c22
                try clear c22b0
                try clear c22b1
                try clear p23
                try clear q23
                try clear hx23
                try clear qi23
                try clear c24
                try clear p2
                try clear p23
                try clear q2
                try clear q23
                obtain ⟨x7_3, x65_3, rfl, rfl, HA, HK3, HB⟩ := hrel
                cases gk with
                | zero => exact absurd HA.out (by simp [laws_FnNameBuilt.l0])
                | succ k3 =>
                  have H := HA.out
                  clear HA
                  simp only [laws_FnNameBuilt.l0] at H
                  by_cases c25 : x65_3 < (l0.length : Int)
                  · rw [if_pos c25] at H
                    have c25b0 : decide (x65_3 < (l0.length : Int)) = true := decide_eq_true c25
                    clear c25
                    by_cases c26 : 0 ≤ x65_3
                    · rw [if_pos c26] at H
                      have c26b0 : decide (0 ≤ x65_3) = true := decide_eq_true c26
                      clear c26
                      by_cases c27 : x65_3 < (l0.length : Int)
                      · rw [if_pos c27] at H
                        have c27b0 : decide (x65_3 < (l0.length : Int)) = true := decide_eq_true c27
                        clear c27
                        replace H := Option.bind_eq_some_iff.mp H
                        obtain ⟨t119, A280, H⟩ := H
                        replace H : (if t119 = true then (some true) else (if (rdOf ByteArray.empty l0 x65_3).toList = ([] : List UInt8) then (some true) else (if (x7_3.size : Int) > 65536 then (some true) else (if (rdOf ByteArray.empty l0 x65_3).size + 1 ≤ 9223372036854775807 then (if x7_3.size + ((rdOf ByteArray.empty l0 x65_3) ++ (⟨#[47]⟩ : ByteArray)).size ≤ 9223372036854775807 then (laws_FnNameBuilt.l0 k3 a1 a2 (x7_3 ++ ((rdOf ByteArray.empty l0 x65_3) ++ (⟨#[47]⟩ : ByteArray))) l0 (l0.length : Int) (wrap64 (x65_3 + 1))) else (none)) else (none))))) = some r := H
                        have A28 := Aside0.mk A280
                        clear A280
                        by_cases c29 : t119 = true
                        · subst c29
                          have H1 : (some true) = some r := by rw [if_pos rfl] at H; exact H
                          clear H
                          have H := H1
                          clear H1
                          obtain rfl := Option.some.inj H
                          have p118 : 0 ≤ (x65_3 : Int) := of_decide_eq_true (by first | (with_reducible assumption) | assumption)
                          have q118 : x65_3 < (l0.length : Int) := of_decide_eq_true (by first | (with_reducible assumption) | assumption)
                          obtain ⟨ad118, e118, hx118_0⟩ := Kd.at_string HR0.out x65_3 p118 q118
                          cases e118
                          replace hx118_0 := (HB.out.cell (World.block_lt_of_cell? w _ hx118_0)).trans hx118_0
                          replace p118 := eq_true p118
                          replace q118 := eq_true q118
                          go_wp2_with (first | ((with_reducible refine gate_callee (f := 11) rfl ?_); refine goesL_ (some 70) rfl rfl Tryd.func11 (by kernel_rfl) rfl #[.string (rdOf ByteArray.empty l0 x65_3), .string (⟨#[47]⟩ : ByteArray)] rfl (by (try simp only [List.map_toArray, List.map_cons, List.map_nil]); first | done | rfl | (simp only [List.length_drop, List.length_take]; rfl)) ?_; (with_reducible refine (laws_has.calls k3 (rdOf ByteArray.empty l0 x65_3) (⟨#[47]⟩ : ByteArray) true _ A28.out).mono ?_); rintro e w' ⟨rfl, ⟨nd, rfl⟩⟩; refine ⟨_, rfl, ?_⟩))
                          go_ret
                          exact ⟨by first | rfl | (simp [errW_none, errW_some] <;> rfl) | (simp [*, errW_none, errW_some] <;> rfl), by repeat (first | (with_reducible first | exact HB.out | apply below_alloc | apply pw_below_drewN | apply below_drew1) | exact HB.out)⟩
                        · replace c29 := Bool.eq_false_iff.mpr c29
                          subst c29
                          have H1 : (if (rdOf ByteArray.empty l0 x65_3).toList = ([] : List UInt8) then (some true) else (if (x7_3.size : Int) > 65536 then (some true) else (if (rdOf ByteArray.empty l0 x65_3).size + 1 ≤ 9223372036854775807 then (if x7_3.size + ((rdOf ByteArray.empty l0 x65_3) ++ (⟨#[47]⟩ : ByteArray)).size ≤ 9223372036854775807 then (laws_FnNameBuilt.l0 k3 a1 a2 (x7_3 ++ ((rdOf ByteArray.empty l0 x65_3) ++ (⟨#[47]⟩ : ByteArray))) l0 (l0.length : Int) (wrap64 (x65_3 + 1))) else (none)) else (none)))) = some r := by rw [if_neg (show ¬ (false = true) by decide)] at H; exact H
                          clear H
                          have H := H1
                          clear H1
                          by_cases c30 : (rdOf ByteArray.empty l0 x65_3).toList = ([] : List UInt8)
                          · rw [if_pos c30] at H
                            have c30b0 : ((rdOf ByteArray.empty l0 x65_3).toList == ([] : List UInt8)) = true := beq_iff_eq.mpr c30
                            have c30b1 : ((rdOf ByteArray.empty l0 x65_3).toList != ([] : List UInt8)) = false := bne_eq_false_iff_eq.mpr c30
                            clear c30
                            obtain rfl := Option.some.inj H
                            have p118 : 0 ≤ (x65_3 : Int) := of_decide_eq_true (by first | (with_reducible assumption) | assumption)
                            have q118 : x65_3 < (l0.length : Int) := of_decide_eq_true (by first | (with_reducible assumption) | assumption)
                            obtain ⟨ad118, e118, hx118_0⟩ := Kd.at_string HR0.out x65_3 p118 q118
                            cases e118
                            replace hx118_0 := (HB.out.cell (World.block_lt_of_cell? w _ hx118_0)).trans hx118_0
                            replace p118 := eq_true p118
                            replace q118 := eq_true q118
                            go_wp2_with (first | ((with_reducible refine gate_callee (f := 11) rfl ?_); refine goesL_ (some 70) rfl rfl Tryd.func11 (by kernel_rfl) rfl #[.string (rdOf ByteArray.empty l0 x65_3), .string (⟨#[47]⟩ : ByteArray)] rfl (by (try simp only [List.map_toArray, List.map_cons, List.map_nil]); first | done | rfl | (simp only [List.length_drop, List.length_take]; rfl)) ?_; (with_reducible refine (laws_has.calls k3 (rdOf ByteArray.empty l0 x65_3) (⟨#[47]⟩ : ByteArray) false _ A28.out).mono ?_); rintro e w' ⟨rfl, ⟨nd, rfl⟩⟩; refine ⟨_, rfl, ?_⟩))
                            go_ret
                            exact ⟨by first | rfl | (simp [errW_none, errW_some] <;> rfl) | (simp [*, errW_none, errW_some] <;> rfl), by repeat (first | (with_reducible first | exact HB.out | apply below_alloc | apply pw_below_drewN | apply below_drew1) | exact HB.out)⟩
                          · rw [if_neg c30] at H
                            have c30b0 : ((rdOf ByteArray.empty l0 x65_3).toList == ([] : List UInt8)) = false := beq_eq_false_iff_ne.mpr c30
                            have c30b1 : ((rdOf ByteArray.empty l0 x65_3).toList != ([] : List UInt8)) = true := bne_iff_ne.mpr c30
                            by_cases c31 : (x7_3.size : Int) > 65536
                            · rw [if_pos c31] at H
                              have c31b0 : decide (65536 < (x7_3.size : Int)) = true := decide_eq_true c31
                              have c31b1 : decide (65536 < x7_3.size) = true := decide_eq_true (by omega)
                              clear c31
                              obtain rfl := Option.some.inj H
                              have p118 : 0 ≤ (x65_3 : Int) := of_decide_eq_true (by first | (with_reducible assumption) | assumption)
                              have q118 : x65_3 < (l0.length : Int) := of_decide_eq_true (by first | (with_reducible assumption) | assumption)
                              obtain ⟨ad118, e118, hx118_0⟩ := Kd.at_string HR0.out x65_3 p118 q118
                              cases e118
                              replace hx118_0 := (HB.out.cell (World.block_lt_of_cell? w _ hx118_0)).trans hx118_0
                              replace p118 := eq_true p118
                              replace q118 := eq_true q118
                              go_wp2_with (first | ((with_reducible refine gate_callee (f := 11) rfl ?_); refine goesL_ (some 70) rfl rfl Tryd.func11 (by kernel_rfl) rfl #[.string (rdOf ByteArray.empty l0 x65_3), .string (⟨#[47]⟩ : ByteArray)] rfl (by (try simp only [List.map_toArray, List.map_cons, List.map_nil]); first | done | rfl | (simp only [List.length_drop, List.length_take]; rfl)) ?_; (with_reducible refine (laws_has.calls k3 (rdOf ByteArray.empty l0 x65_3) (⟨#[47]⟩ : ByteArray) false _ A28.out).mono ?_); rintro e w' ⟨rfl, ⟨nd, rfl⟩⟩; refine ⟨_, rfl, ?_⟩))
                              go_ret
                              exact ⟨by first | rfl | (simp [errW_none, errW_some] <;> rfl) | (simp [*, errW_none, errW_some] <;> rfl), by repeat (first | (with_reducible first | exact HB.out | apply below_alloc | apply pw_below_drewN | apply below_drew1) | exact HB.out)⟩
                            · rw [if_neg c31] at H
                              have c31b0 : decide (65536 < (x7_3.size : Int)) = false := decide_eq_false c31
                              have c31b1 : decide (65536 < x7_3.size) = false := decide_eq_false (by omega)
                              clear c31
                              by_cases c32 : (rdOf ByteArray.empty l0 x65_3).size + 1 ≤ 9223372036854775807
                              · rw [if_pos c32] at H
                                have c32b0 := eq_true c32
                                have c32b1 : decide ((rdOf ByteArray.empty l0 x65_3).size + 1 ≤ 9223372036854775807) = true := decide_eq_true c32
                                try have c32b2 : (9223372036854775807 < (rdOf ByteArray.empty l0 x65_3).size + 1) = False := eq_false (Nat.not_lt.2 c32)
                                by_cases c33 : x7_3.size + ((rdOf ByteArray.empty l0 x65_3) ++ (⟨#[47]⟩ : ByteArray)).size ≤ 9223372036854775807
                                · rw [if_pos c33] at H
                                  have c33b0 := eq_true c33
                                  have c33b1 : decide (x7_3.size + ((rdOf ByteArray.empty l0 x65_3) ++ (⟨#[47]⟩ : ByteArray)).size ≤ 9223372036854775807) = true := decide_eq_true c33
                                  try have c33b2 : (9223372036854775807 < x7_3.size + ((rdOf ByteArray.empty l0 x65_3) ++ (⟨#[47]⟩ : ByteArray)).size) = False := eq_false (Nat.not_lt.2 c33)
                                  try (have c33n := c33; simp only [ByteArray.size_append, ByteArray.size, List.size_toArray, List.length_cons, List.length_nil, Nat.zero_add, Nat.reduceAdd] at c33n; simp at c33n; have c33n0 := eq_true c33n; have c33n1 := eq_false (Nat.not_lt.2 c33n); have c33n2 := decide_eq_true c33n)
                                  have H' := Aside0.mk H
                                  clear H
                                  have p118 : 0 ≤ (x65_3 : Int) := of_decide_eq_true (by first | (with_reducible assumption) | assumption)
                                  have q118 : x65_3 < (l0.length : Int) := of_decide_eq_true (by first | (with_reducible assumption) | assumption)
                                  obtain ⟨ad118, e118, hx118_0⟩ := Kd.at_string HR0.out x65_3 p118 q118
                                  cases e118
                                  replace hx118_0 := (HB.out.cell (World.block_lt_of_cell? w _ hx118_0)).trans hx118_0
                                  replace p118 := eq_true p118
                                  replace q118 := eq_true q118
                                  go_wp2_with (first | ((with_reducible refine gate_callee (f := 11) rfl ?_); refine goesL_ (some 70) rfl rfl Tryd.func11 (by kernel_rfl) rfl #[.string (rdOf ByteArray.empty l0 x65_3), .string (⟨#[47]⟩ : ByteArray)] rfl (by (try simp only [List.map_toArray, List.map_cons, List.map_nil]); first | done | rfl | (simp only [List.length_drop, List.length_take]; rfl)) ?_; (with_reducible refine (laws_has.calls k3 (rdOf ByteArray.empty l0 x65_3) (⟨#[47]⟩ : ByteArray) false _ A28.out).mono ?_); rintro e w' ⟨rfl, ⟨nd, rfl⟩⟩; refine ⟨_, rfl, ?_⟩))
                                  go_roundg k3
                                  case measure => have := HJ3.out; have := HJ8.out; have := HK3.out; omega
                                  case rel => exact ⟨(x7_3 ++ ((rdOf ByteArray.empty l0 x65_3) ++ (⟨#[47]⟩ : ByteArray))), (wrap64 (x65_3 + 1)), (by first | rfl | (simp; done) | (simp [*]; done)), (by first | rfl | (simp; done) | (simp [*]; done)), H', ⟨by have := HJ3.out; have := HJ8.out; have := HK3.out; omega⟩, ⟨by repeat (first | (with_reducible first | exact HB.out | apply below_alloc | apply pw_below_drewN | apply below_drew1) | exact HB.out)⟩⟩
                                · rw [if_neg c33] at H
                                  exact absurd H (by simp)
                              · rw [if_neg c32] at H
                                exact absurd H (by simp)
                      · rw [if_neg c27] at H
                        exact absurd H (by simp)
                    · rw [if_neg c26] at H
                      exact absurd H (by simp)
                  · rw [if_neg c25] at H
                    have c25b0 : decide (x65_3 < (l0.length : Int)) = false := decide_eq_false c25
                    clear c25
                    by_cases c34 : a1.size + 1 ≤ 9223372036854775807
                    · rw [if_pos c34] at H
                      have c34b0 := eq_true c34
                      have c34b1 : decide (a1.size + 1 ≤ 9223372036854775807) = true := decide_eq_true c34
                      try have c34b2 : (9223372036854775807 < a1.size + 1) = False := eq_false (Nat.not_lt.2 c34)
                      by_cases c35 : (a1 ++ (⟨#[46]⟩ : ByteArray)).size + a2.size ≤ 9223372036854775807
                      · rw [if_pos c35] at H
                        have c35b0 := eq_true c35
                        have c35b1 : decide ((a1 ++ (⟨#[46]⟩ : ByteArray)).size + a2.size ≤ 9223372036854775807) = true := decide_eq_true c35
                        try have c35b2 : (9223372036854775807 < (a1 ++ (⟨#[46]⟩ : ByteArray)).size + a2.size) = False := eq_false (Nat.not_lt.2 c35)
                        try (have c35n := c35; simp only [ByteArray.size_append, ByteArray.size, List.size_toArray, List.length_cons, List.length_nil, Nat.zero_add, Nat.reduceAdd] at c35n; simp at c35n; have c35n0 := eq_true c35n; have c35n1 := eq_false (Nat.not_lt.2 c35n); have c35n2 := decide_eq_true c35n)
                        by_cases c36 : x7_3.size + ((a1 ++ (⟨#[46]⟩ : ByteArray)) ++ a2).size ≤ 9223372036854775807
                        · rw [if_pos c36] at H
                          have c36b0 := eq_true c36
                          have c36b1 : decide (x7_3.size + ((a1 ++ (⟨#[46]⟩ : ByteArray)) ++ a2).size ≤ 9223372036854775807) = true := decide_eq_true c36
                          try have c36b2 : (9223372036854775807 < x7_3.size + ((a1 ++ (⟨#[46]⟩ : ByteArray)) ++ a2).size) = False := eq_false (Nat.not_lt.2 c36)
                          try (have c36n := c36; simp only [ByteArray.size_append, ByteArray.size, List.size_toArray, List.length_cons, List.length_nil, Nat.zero_add, Nat.reduceAdd] at c36n; simp at c36n; have c36n0 := eq_true c36n; have c36n1 := eq_false (Nat.not_lt.2 c36n); have c36n2 := decide_eq_true c36n)
                          replace H := Option.bind_eq_some_iff.mp H
                          obtain ⟨⟨t120, t121⟩, A370, H⟩ := H
                          replace H : ((impl_FileAndExtNoDelimiter.f (x7_3 ++ ((a1 ++ (⟨#[46]⟩ : ByteArray)) ++ a2))).bind fun bt122 => (if t120.toList = a1.toList then (if 1 + a2.size ≤ 9223372036854775807 then (if t121.toList = ((⟨#[46]⟩ : ByteArray) ++ a2).toList then (if bt122.1.toList = a1.toList then (if bt122.2.toList = a2.toList then ((impl_Ext.f (x7_3 ++ ((a1 ++ (⟨#[46]⟩ : ByteArray)) ++ a2))).bind fun t124 => (if t124.toList = ((⟨#[46]⟩ : ByteArray) ++ a2).toList then ((impl_ExtNoDelimiter.f (x7_3 ++ ((a1 ++ (⟨#[46]⟩ : ByteArray)) ++ a2))).bind fun t125 => (if t125.toList = a2.toList then ((impl_Filename.f (x7_3 ++ ((a1 ++ (⟨#[46]⟩ : ByteArray)) ++ a2))).bind fun t126 => (some (t126.toList == a1.toList))) else (some false))) else (some false))) else (some false)) else (some false)) else (some false)) else (none)) else (some false))) = some r := H
                          have A37 := Aside0.mk A370
                          clear A370
                          replace H := Option.bind_eq_some_iff.mp H
                          obtain ⟨⟨t122, t123⟩, A380, H⟩ := H
                          replace H : (if t120.toList = a1.toList then (if 1 + a2.size ≤ 9223372036854775807 then (if t121.toList = ((⟨#[46]⟩ : ByteArray) ++ a2).toList then (if t122.toList = a1.toList then (if t123.toList = a2.toList then ((impl_Ext.f (x7_3 ++ ((a1 ++ (⟨#[46]⟩ : ByteArray)) ++ a2))).bind fun t124 => (if t124.toList = ((⟨#[46]⟩ : ByteArray) ++ a2).toList then ((impl_ExtNoDelimiter.f (x7_3 ++ ((a1 ++ (⟨#[46]⟩ : ByteArray)) ++ a2))).bind fun t125 => (if t125.toList = a2.toList then ((impl_Filename.f (x7_3 ++ ((a1 ++ (⟨#[46]⟩ : ByteArray)) ++ a2))).bind fun t126 => (some (t126.toList == a1.toList))) else (some false))) else (some false))) else (some false)) else (some false)) else (some false)) else (none)) else (some false)) = some r := H
                          have A38 := Aside0.mk A380
                          clear A380
                          by_cases c39 : t120.toList = a1.toList
                          · rw [if_pos c39] at H
                            have c39b0 : (t120.toList == a1.toList) = true := beq_iff_eq.mpr c39
                            have c39b1 : (t120.toList != a1.toList) = false := bne_eq_false_iff_eq.mpr c39
                            clear c39
                            by_cases c40 : 1 + a2.size ≤ 9223372036854775807
                            · rw [if_pos c40] at H
                              have c40b0 := eq_true c40
                              have c40b1 : decide (1 + a2.size ≤ 9223372036854775807) = true := decide_eq_true c40
                              try have c40b2 : (9223372036854775807 < 1 + a2.size) = False := eq_false (Nat.not_lt.2 c40)
                              by_cases c41 : t121.toList = ((⟨#[46]⟩ : ByteArray) ++ a2).toList
                              · rw [if_pos c41] at H
                                have c41b0 : (t121.toList == ((⟨#[46]⟩ : ByteArray) ++ a2).toList) = true := beq_iff_eq.mpr c41
                                have c41b1 : (t121.toList != ((⟨#[46]⟩ : ByteArray) ++ a2).toList) = false := bne_eq_false_iff_eq.mpr c41
                                clear c41
                                by_cases c42 : t122.toList = a1.toList
                                · rw [if_pos c42] at H
                                  have c42b0 : (t122.toList == a1.toList) = true := beq_iff_eq.mpr c42
                                  have c42b1 : (t122.toList != a1.toList) = false := bne_eq_false_iff_eq.mpr c42
                                  clear c42
                                  by_cases c43 : t123.toList = a2.toList
                                  · rw [if_pos c43] at H
                                    have c43b0 : (t123.toList == a2.toList) = true := beq_iff_eq.mpr c43
                                    have c43b1 : (t123.toList != a2.toList) = false := bne_eq_false_iff_eq.mpr c43
                                    clear c43
                                    replace H := Option.bind_eq_some_iff.mp H
                                    obtain ⟨t124, A440, H⟩ := H
                                    replace H : (if t124.toList = ((⟨#[46]⟩ : ByteArray) ++ a2).toList then ((impl_ExtNoDelimiter.f (x7_3 ++ ((a1 ++ (⟨#[46]⟩ : ByteArray)) ++ a2))).bind fun t125 => (if t125.toList = a2.toList then ((impl_Filename.f (x7_3 ++ ((a1 ++ (⟨#[46]⟩ : ByteArray)) ++ a2))).bind fun t126 => (some (t126.toList == a1.toList))) else (some false))) else (some false)) = some r := H
                                    have A44 := Aside0.mk A440
                                    clear A440
                                    by_cases c45 : t124.toList = ((⟨#[46]⟩ : ByteArray) ++ a2).toList
                                    · rw [if_pos c45] at H
                                      have c45b0 : (t124.toList == ((⟨#[46]⟩ : ByteArray) ++ a2).toList) = true := beq_iff_eq.mpr c45
                                      have c45b1 : (t124.toList != ((⟨#[46]⟩ : ByteArray) ++ a2).toList) = false := bne_eq_false_iff_eq.mpr c45
                                      clear c45
                                      replace H := Option.bind_eq_some_iff.mp H
                                      obtain ⟨t125, A460, H⟩ := H
                                      replace H : (if t125.toList = a2.toList then ((impl_Filename.f (x7_3 ++ ((a1 ++ (⟨#[46]⟩ : ByteArray)) ++ a2))).bind fun t126 => (some (t126.toList == a1.toList))) else (some false)) = some r := H
                                      have A46 := Aside0.mk A460
                                      clear A460
                                      by_cases c47 : t125.toList = a2.toList
                                      · rw [if_pos c47] at H
                                        have c47b0 : (t125.toList == a2.toList) = true := beq_iff_eq.mpr c47
                                        have c47b1 : (t125.toList != a2.toList) = false := bne_eq_false_iff_eq.mpr c47
                                        clear c47
                                        replace H := Option.bind_eq_some_iff.mp H
                                        obtain ⟨t126, A480, H⟩ := H
                                        replace H : (some (t126.toList == a1.toList)) = some r := H
                                        have A48 := Aside0.mk A480
                                        clear A480
                                        obtain rfl := Option.some.inj H
                                        go_wp2_with (first | ((with_reducible refine gate_callee (f := 8) rfl ?_); refine goesL_ (some 93) rfl rfl Tryd.func8 (by kernel_rfl) rfl #[.string (x7_3 ++ ((a1 ++ (⟨#[46]⟩ : ByteArray)) ++ a2))] rfl (by (try simp only [List.map_toArray, List.map_cons, List.map_nil]); first | done | rfl | (simp only [List.length_drop, List.length_take]; rfl)) ?_; (with_reducible refine (impl_FileAndExt.calls (x7_3 ++ ((a1 ++ (⟨#[46]⟩ : ByteArray)) ++ a2)) t120 t121 _ A37.out).mono ?_); rintro e w49 ⟨rfl, hb⟩; refine ⟨_, rfl, ?_⟩; have n0_ := Aside0.mk (below_step (by repeat (first | (with_reducible first | exact HB.out | apply below_alloc | apply pw_below_drewN | apply below_drew1) | exact HB.out)) hb); clear HB; have HB := n0_; clear n0_; (try clear hb); (try clear hb2); (try clear hk); (try clear hi)) | ((with_reducible refine gate_callee (f := 9) rfl ?_); refine goesL_ (some 98) rfl rfl Tryd.func9 (by kernel_rfl) rfl #[.string (x7_3 ++ ((a1 ++ (⟨#[46]⟩ : ByteArray)) ++ a2))] rfl (by (try simp only [List.map_toArray, List.map_cons, List.map_nil]); first | done | rfl | (simp only [List.length_drop, List.length_take]; rfl)) ?_; (with_reducible refine (impl_FileAndExtNoDelimiter.calls (x7_3 ++ ((a1 ++ (⟨#[46]⟩ : ByteArray)) ++ a2)) t122 t123 _ A38.out).mono ?_); rintro e w50 ⟨rfl, hb⟩; refine ⟨_, rfl, ?_⟩; have n0_ := Aside0.mk (below_step (by repeat (first | (with_reducible first | exact HB.out | apply below_alloc | apply pw_below_drewN | apply below_drew1) | exact HB.out)) hb); clear HB; have HB := n0_; clear n0_; (try clear hb); (try clear hb2); (try clear hk); (try clear hi)) | (go_at_call 6; (with_reducible refine (impl_Ext.calls (x7_3 ++ ((a1 ++ (⟨#[46]⟩ : ByteArray)) ++ a2)) t124 _ A44.out).mono ?_); rintro e w51 ⟨rfl, hb⟩; have n0_ := Aside0.mk (below_step (by repeat (first | (with_reducible first | exact HB.out | apply below_alloc | apply pw_below_drewN | apply below_drew1) | exact HB.out)) hb); clear HB; have HB := n0_; clear n0_; (try clear hb); (try clear hb2); (try clear hk); (try clear hi)) | (go_at_call 7; (with_reducible refine (impl_ExtNoDelimiter.calls (x7_3 ++ ((a1 ++ (⟨#[46]⟩ : ByteArray)) ++ a2)) t125 _ A46.out).mono ?_); rintro e w52 ⟨rfl, hb⟩; have n0_ := Aside0.mk (below_step (by repeat (first | (with_reducible first | exact HB.out | apply below_alloc | apply pw_below_drewN | apply below_drew1) | exact HB.out)) hb); clear HB; have HB := n0_; clear n0_; (try clear hb); (try clear hb2); (try clear hk); (try clear hi)) | (go_at_call 13; (with_reducible refine (impl_Filename.calls (x7_3 ++ ((a1 ++ (⟨#[46]⟩ : ByteArray)) ++ a2)) t126 _ A48.out).mono ?_); rintro e w53 ⟨rfl, hb⟩; have n0_ := Aside0.mk (below_step (by repeat (first | (with_reducible first | exact HB.out | apply below_alloc | apply pw_below_drewN | apply below_drew1) | exact HB.out)) hb); clear HB; have HB := n0_; clear n0_; (try clear hb); (try clear hb2); (try clear hk); (try clear hi)))
                                        go_ret
                                        exact ⟨by first | rfl | (simp [errW_none, errW_some] <;> rfl) | (simp [*, errW_none, errW_some] <;> rfl), by repeat (first | (with_reducible first | exact HB.out | apply below_alloc | apply pw_below_drewN | apply below_drew1) | exact HB.out)⟩
                                      · rw [if_neg c47] at H
                                        have c47b0 : (t125.toList == a2.toList) = false := beq_eq_false_iff_ne.mpr c47
                                        have c47b1 : (t125.toList != a2.toList) = true := bne_iff_ne.mpr c47
                                        obtain rfl := Option.some.inj H
                                        go_wp2_with (first | ((with_reducible refine gate_callee (f := 8) rfl ?_); refine goesL_ (some 93) rfl rfl Tryd.func8 (by kernel_rfl) rfl #[.string (x7_3 ++ ((a1 ++ (⟨#[46]⟩ : ByteArray)) ++ a2))] rfl (by (try simp only [List.map_toArray, List.map_cons, List.map_nil]); first | done | rfl | (simp only [List.length_drop, List.length_take]; rfl)) ?_; (with_reducible refine (impl_FileAndExt.calls (x7_3 ++ ((a1 ++ (⟨#[46]⟩ : ByteArray)) ++ a2)) t120 t121 _ A37.out).mono ?_); rintro e w54 ⟨rfl, hb⟩; refine ⟨_, rfl, ?_⟩; have n0_ := Aside0.mk (below_step (by repeat (first | (with_reducible first | exact HB.out | apply below_alloc | apply pw_below_drewN | apply below_drew1) | exact HB.out)) hb); clear HB; have HB := n0_; clear n0_; (try clear hb); (try clear hb2); (try clear hk); (try clear hi)) | ((with_reducible refine gate_callee (f := 9) rfl ?_); refine goesL_ (some 98) rfl rfl Tryd.func9 (by kernel_rfl) rfl #[.string (x7_3 ++ ((a1 ++ (⟨#[46]⟩ : ByteArray)) ++ a2))] rfl (by (try simp only [List.map_toArray, List.map_cons, List.map_nil]); first | done | rfl | (simp only [List.length_drop, List.length_take]; rfl)) ?_; (with_reducible refine (impl_FileAndExtNoDelimiter.calls (x7_3 ++ ((a1 ++ (⟨#[46]⟩ : ByteArray)) ++ a2)) t122 t123 _ A38.out).mono ?_); rintro e w55 ⟨rfl, hb⟩; refine ⟨_, rfl, ?_⟩; have n0_ := Aside0.mk (below_step (by repeat (first | (with_reducible first | exact HB.out | apply below_alloc | apply pw_below_drewN | apply below_drew1) | exact HB.out)) hb); clear HB; have HB := n0_; clear n0_; (try clear hb); (try clear hb2); (try clear hk); (try clear hi)) | (go_at_call 6; (with_reducible refine (impl_Ext.calls (x7_3 ++ ((a1 ++ (⟨#[46]⟩ : ByteArray)) ++ a2)) t124 _ A44.out).mono ?_); rintro e w56 ⟨rfl, hb⟩; have n0_ := Aside0.mk (below_step (by repeat (first | (with_reducible first | exact HB.out | apply below_alloc | apply pw_below_drewN | apply below_drew1) | exact HB.out)) hb); clear HB; have HB := n0_; clear n0_; (try clear hb); (try clear hb2); (try clear hk); (try clear hi)) | (go_at_call 7; (with_reducible refine (impl_ExtNoDelimiter.calls (x7_3 ++ ((a1 ++ (⟨#[46]⟩ : ByteArray)) ++ a2)) t125 _ A46.out).mono ?_); rintro e w57 ⟨rfl, hb⟩; have n0_ := Aside0.mk (below_step (by repeat (first | (with_reducible first | exact HB.out | apply below_alloc | apply pw_below_drewN | apply below_drew1) | exact HB.out)) hb); clear HB; have HB := n0_; clear n0_; (try clear hb); (try clear hb2); (try clear hk); (try clear hi)))
                                        go_ret
                                        exact ⟨by first | rfl | (simp [errW_none, errW_some] <;> rfl) | (simp [*, errW_none, errW_some] <;> rfl), by repeat (first | (with_reducible first | exact HB.out | apply below_alloc | apply pw_below_drewN | apply below_drew1) | exact HB.out)⟩
                                    · rw [if_neg c45] at H
                                      have c45b0 : (t124.toList == ((⟨#[46]⟩ : ByteArray) ++ a2).toList) = false := beq_eq_false_iff_ne.mpr c45
                                      have c45b1 : (t124.toList != ((⟨#[46]⟩ : ByteArray) ++ a2).toList) = true := bne_iff_ne.mpr c45
                                      obtain rfl := Option.some.inj H
                                      go_wp2_with (first | ((with_reducible refine gate_callee (f := 8) rfl ?_); refine goesL_ (some 93) rfl rfl Tryd.func8 (by kernel_rfl) rfl #[.string (x7_3 ++ ((a1 ++ (⟨#[46]⟩ : ByteArray)) ++ a2))] rfl (by (try simp only [List.map_toArray, List.map_cons, List.map_nil]); first | done | rfl | (simp only [List.length_drop, List.length_take]; rfl)) ?_; (with_reducible refine (impl_FileAndExt.calls (x7_3 ++ ((a1 ++ (⟨#[46]⟩ : ByteArray)) ++ a2)) t120 t121 _ A37.out).mono ?_); rintro e w58 ⟨rfl, hb⟩; refine ⟨_, rfl, ?_⟩; have n0_ := Aside0.mk (below_step (by repeat (first | (with_reducible first | exact HB.out | apply below_alloc | apply pw_below_drewN | apply below_drew1) | exact HB.out)) hb); clear HB; have HB := n0_; clear n0_; (try clear hb); (try clear hb2); (try clear hk); (try clear hi)) | ((with_reducible refine gate_callee (f := 9) rfl ?_); refine goesL_ (some 98) rfl rfl Tryd.func9 (by kernel_rfl) rfl #[.string (x7_3 ++ ((a1 ++ (⟨#[46]⟩ : ByteArray)) ++ a2))] rfl (by (try simp only [List.map_toArray, List.map_cons, List.map_nil]); first | done | rfl | (simp only [List.length_drop, List.length_take]; rfl)) ?_; (with_reducible refine (impl_FileAndExtNoDelimiter.calls (x7_3 ++ ((a1 ++ (⟨#[46]⟩ : ByteArray)) ++ a2)) t122 t123 _ A38.out).mono ?_); rintro e w59 ⟨rfl, hb⟩; refine ⟨_, rfl, ?_⟩; have n0_ := Aside0.mk (below_step (by repeat (first | (with_reducible first | exact HB.out | apply below_alloc | apply pw_below_drewN | apply below_drew1) | exact HB.out)) hb); clear HB; have HB := n0_; clear n0_; (try clear hb); (try clear hb2); (try clear hk); (try clear hi)) | (go_at_call 6; (with_reducible refine (impl_Ext.calls (x7_3 ++ ((a1 ++ (⟨#[46]⟩ : ByteArray)) ++ a2)) t124 _ A44.out).mono ?_); rintro e w60 ⟨rfl, hb⟩; have n0_ := Aside0.mk (below_step (by repeat (first | (with_reducible first | exact HB.out | apply below_alloc | apply pw_below_drewN | apply below_drew1) | exact HB.out)) hb); clear HB; have HB := n0_; clear n0_; (try clear hb); (try clear hb2); (try clear hk); (try clear hi)))
                                      go_ret
                                      exact ⟨by first | rfl | (simp [errW_none, errW_some] <;> rfl) | (simp [*, errW_none, errW_some] <;> rfl), by repeat (first | (with_reducible first | exact HB.out | apply below_alloc | apply pw_below_drewN | apply below_drew1) | exact HB.out)⟩
                                  · rw [if_neg c43] at H
                                    have c43b0 : (t123.toList == a2.toList) = false := beq_eq_false_iff_ne.mpr c43
                                    have c43b1 : (t123.toList != a2.toList) = true := bne_iff_ne.mpr c43
                                    obtain rfl := Option.some.inj H
                                    go_wp2_with (first | ((with_reducible refine gate_callee (f := 8) rfl ?_); refine goesL_ (some 93) rfl rfl Tryd.func8 (by kernel_rfl) rfl #[.string (x7_3 ++ ((a1 ++ (⟨#[46]⟩ : ByteArray)) ++ a2))] rfl (by (try simp only [List.map_toArray, List.map_cons, List.map_nil]); first | done | rfl | (simp only [List.length_drop, List.length_take]; rfl)) ?_; (with_reducible refine (impl_FileAndExt.calls (x7_3 ++ ((a1 ++ (⟨#[46]⟩ : ByteArray)) ++ a2)) t120 t121 _ A37.out).mono ?_); rintro e w61 ⟨rfl, hb⟩; refine ⟨_, rfl, ?_⟩; have n0_ := Aside0.mk (below_step (by repeat (first | (with_reducible first | exact HB.out | apply below_alloc | apply pw_below_drewN | apply below_drew1) | exact HB.out)) hb); clear HB; have HB := n0_; clear n0_; (try clear hb); (try clear hb2); (try clear hk); (try clear hi)) | ((with_reducible refine gate_callee (f := 9) rfl ?_); refine goesL_ (some 98) rfl rfl Tryd.func9 (by kernel_rfl) rfl #[.string (x7_3 ++ ((a1 ++ (⟨#[46]⟩ : ByteArray)) ++ a2))] rfl (by (try simp only [List.map_toArray, List.map_cons, List.map_nil]); first | done | rfl | (simp only [List.length_drop, List.length_take]; rfl)) ?_; (with_reducible refine (impl_FileAndExtNoDelimiter.calls (x7_3 ++ ((a1 ++ (⟨#[46]⟩ : ByteArray)) ++ a2)) t122 t123 _ A38.out).mono ?_); rintro e w62 ⟨rfl, hb⟩; refine ⟨_, rfl, ?_⟩; have n0_ := Aside0.mk (below_step (by repeat (first | (with_reducible first | exact HB.out | apply below_alloc | apply pw_below_drewN | apply below_drew1) | exact HB.out)) hb); clear HB; have HB := n0_; clear n0_; (try clear hb); (try clear hb2); (try clear hk); (try clear hi)))
                                    go_ret
                                    exact ⟨by first | rfl | (simp [errW_none, errW_some] <;> rfl) | (simp [*, errW_none, errW_some] <;> rfl), by repeat (first | (with_reducible first | exact HB.out | apply below_alloc | apply pw_below_drewN | apply below_drew1) | exact HB.out)⟩
                                · rw [if_neg c42] at H
                                  have c42b0 : (t122.toList == a1.toList) = false := beq_eq_false_iff_ne.mpr c42
                                  have c42b1 : (t122.toList != a1.toList) = true := bne_iff_ne.mpr c42
                                  obtain rfl := Option.some.inj H
                                  go_wp2_with (first | ((with_reducible refine gate_callee (f := 8) rfl ?_); refine goesL_ (some 93) rfl rfl Tryd.func8 (by kernel_rfl) rfl #[.string (x7_3 ++ ((a1 ++ (⟨#[46]⟩ : ByteArray)) ++ a2))] rfl (by (try simp only [List.map_toArray, List.map_cons, List.map_nil]); first | done | rfl | (simp only [List.length_drop, List.length_take]; rfl)) ?_; (with_reducible refine (impl_FileAndExt.calls (x7_3 ++ ((a1 ++ (⟨#[46]⟩ : ByteArray)) ++ a2)) t120 t121 _ A37.out).mono ?_); rintro e w63 ⟨rfl, hb⟩; refine ⟨_, rfl, ?_⟩; have n0_ := Aside0.mk (below_step (by repeat (first | (with_reducible first | exact HB.out | apply below_alloc | apply pw_below_drewN | apply below_drew1) | exact HB.out)) hb); clear HB; have HB := n0_; clear n0_; (try clear hb); (try clear hb2); (try clear hk); (try clear hi)) | ((with_reducible refine gate_callee (f := 9) rfl ?_); refine goesL_ (some 98) rfl rfl Tryd.func9 (by kernel_rfl) rfl #[.string (x7_3 ++ ((a1 ++ (⟨#[46]⟩ : ByteArray)) ++ a2))] rfl (by (try simp only [List.map_toArray, List.map_cons, List.map_nil]); first | done | rfl | (simp only [List.length_drop, List.length_take]; rfl)) ?_; (with_reducible refine (impl_FileAndExtNoDelimiter.calls (x7_3 ++ ((a1 ++ (⟨#[46]⟩ : ByteArray)) ++ a2)) t122 t123 _ A38.out).mono ?_); rintro e w64 ⟨rfl, hb⟩; refine ⟨_, rfl, ?_⟩; have n0_ := Aside0.mk (below_step (by repeat (first | (with_reducible first | exact HB.out | apply below_alloc | apply pw_below_drewN | apply below_drew1) | exact HB.out)) hb); clear HB; have HB := n0_; clear n0_; (try clear hb); (try clear hb2); (try clear hk); (try clear hi)))
                                  go_ret
                                  exact ⟨by first | rfl | (simp [errW_none, errW_some] <;> rfl) | (simp [*, errW_none, errW_some] <;> rfl), by repeat (first | (with_reducible first | exact HB.out | apply below_alloc | apply pw_below_drewN | apply below_drew1) | exact HB.out)⟩
                              · rw [if_neg c41] at H
                                have c41b0 : (t121.toList == ((⟨#[46]⟩ : ByteArray) ++ a2).toList) = false := beq_eq_false_iff_ne.mpr c41
                                have c41b1 : (t121.toList != ((⟨#[46]⟩ : ByteArray) ++ a2).toList) = true := bne_iff_ne.mpr c41
                                obtain rfl := Option.some.inj H
                                go_wp2_with (first | ((with_reducible refine gate_callee (f := 8) rfl ?_); refine goesL_ (some 93) rfl rfl Tryd.func8 (by kernel_rfl) rfl #[.string (x7_3 ++ ((a1 ++ (⟨#[46]⟩ : ByteArray)) ++ a2))] rfl (by (try simp only [List.map_toArray, List.map_cons, List.map_nil]); first | done | rfl | (simp only [List.length_drop, List.length_take]; rfl)) ?_; (with_reducible refine (impl_FileAndExt.calls (x7_3 ++ ((a1 ++ (⟨#[46]⟩ : ByteArray)) ++ a2)) t120 t121 _ A37.out).mono ?_); rintro e w65 ⟨rfl, hb⟩; refine ⟨_, rfl, ?_⟩; have n0_ := Aside0.mk (below_step (by repeat (first | (with_reducible first | exact HB.out | apply below_alloc | apply pw_below_drewN | apply below_drew1) | exact HB.out)) hb); clear HB; have HB := n0_; clear n0_; (try clear hb); (try clear hb2); (try clear hk); (try clear hi)) | ((with_reducible refine gate_callee (f := 9) rfl ?_); refine goesL_ (some 98) rfl rfl Tryd.func9 (by kernel_rfl) rfl #[.string (x7_3 ++ ((a1 ++ (⟨#[46]⟩ : ByteArray)) ++ a2))] rfl (by (try simp only [List.map_toArray, List.map_cons, List.map_nil]); first | done | rfl | (simp only [List.length_drop, List.length_take]; rfl)) ?_; (with_reducible refine (impl_FileAndExtNoDelimiter.calls (x7_3 ++ ((a1 ++ (⟨#[46]⟩ : ByteArray)) ++ a2)) t122 t123 _ A38.out).mono ?_); rintro e w66 ⟨rfl, hb⟩; refine ⟨_, rfl, ?_⟩; have n0_ := Aside0.mk (below_step (by repeat (first | (with_reducible first | exact HB.out | apply below_alloc | apply pw_below_drewN | apply below_drew1) | exact HB.out)) hb); clear HB; have HB := n0_; clear n0_; (try clear hb); (try clear hb2); (try clear hk); (try clear hi)))
                                go_ret
                                exact ⟨by first | rfl | (simp [errW_none, errW_some] <;> rfl) | (simp [*, errW_none, errW_some] <;> rfl), by repeat (first | (with_reducible first | exact HB.out | apply below_alloc | apply pw_below_drewN | apply below_drew1) | exact HB.out)⟩
                            · rw [if_neg c40] at H
                              exact absurd H (by simp)
                          · rw [if_neg c39] at H
                            have c39b0 : (t120.toList == a1.toList) = false := beq_eq_false_iff_ne.mpr c39
                            have c39b1 : (t120.toList != a1.toList) = true := bne_iff_ne.mpr c39
                            obtain rfl := Option.some.inj H
                            go_wp2_with (first | ((with_reducible refine gate_callee (f := 8) rfl ?_); refine goesL_ (some 93) rfl rfl Tryd.func8 (by kernel_rfl) rfl #[.string (x7_3 ++ ((a1 ++ (⟨#[46]⟩ : ByteArray)) ++ a2))] rfl (by (try simp only [List.map_toArray, List.map_cons, List.map_nil]); first | done | rfl | (simp only [List.length_drop, List.length_take]; rfl)) ?_; (with_reducible refine (impl_FileAndExt.calls (x7_3 ++ ((a1 ++ (⟨#[46]⟩ : ByteArray)) ++ a2)) t120 t121 _ A37.out).mono ?_); rintro e w67 ⟨rfl, hb⟩; refine ⟨_, rfl, ?_⟩; have n0_ := Aside0.mk (below_step (by repeat (first | (with_reducible first | exact HB.out | apply below_alloc | apply pw_below_drewN | apply below_drew1) | exact HB.out)) hb); clear HB; have HB := n0_; clear n0_; (try clear hb); (try clear hb2); (try clear hk); (try clear hi)) | ((with_reducible refine gate_callee (f := 9) rfl ?_); refine goesL_ (some 98) rfl rfl Tryd.func9 (by kernel_rfl) rfl #[.string (x7_3 ++ ((a1 ++ (⟨#[46]⟩ : ByteArray)) ++ a2))] rfl (by (try simp only [List.map_toArray, List.map_cons, List.map_nil]); first | done | rfl | (simp only [List.length_drop, List.length_take]; rfl)) ?_; (with_reducible refine (impl_FileAndExtNoDelimiter.calls (x7_3 ++ ((a1 ++ (⟨#[46]⟩ : ByteArray)) ++ a2)) t122 t123 _ A38.out).mono ?_); rintro e w68 ⟨rfl, hb⟩; refine ⟨_, rfl, ?_⟩; have n0_ := Aside0.mk (below_step (by repeat (first | (with_reducible first | exact HB.out | apply below_alloc | apply pw_below_drewN | apply below_drew1) | exact HB.out)) hb); clear HB; have HB := n0_; clear n0_; (try clear hb); (try clear hb2); (try clear hk); (try clear hi)))
                            go_ret
                            exact ⟨by first | rfl | (simp [errW_none, errW_some] <;> rfl) | (simp [*, errW_none, errW_some] <;> rfl), by repeat (first | (with_reducible first | exact HB.out | apply below_alloc | apply pw_below_drewN | apply below_drew1) | exact HB.out)⟩
                        · rw [if_neg c36] at H
                          exact absurd H (by simp)
                      · rw [if_neg c35] at H
                        exact absurd H (by simp)
                    · rw [if_neg c34] at H
                      exact absurd H (by simp)

end Go.Proofs.YtgcadmofjblaeaaDoor.PFnNameBuilt
