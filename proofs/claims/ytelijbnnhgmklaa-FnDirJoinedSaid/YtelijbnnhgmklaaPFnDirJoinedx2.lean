/- Printed by a program of this session (a printer turned to take contracts that were proved by hand): functions with the answers of the Go functions, and proofs that the code comes to these answers; no condition beyond what each theorem names. -/
import Derived.Test.YtelijbnnhgmklaaPFnDirJoinedx0
import Derived.Test.YtelijbnnhgmklaaPFnDirJoinedx1
namespace Go.Proofs.Ytelijbnnhgmklaa.PFnDirJoined
open Go.RowKit Go.Proofs.YtelijbnnhgmklaaW.PrintWords Go.Proofs.YtelijbnnhgmklaaW.PrintLast Go.Proofs.YtelijbnnhgmklaaW.PrintMore
attribute [local go_sem] max2_int min2_int max_two min_two max_three min_three max_four min_four   -- for this text's walks alone
set_option linter.unusedVariables false
set_option linter.unusedSimpArgs false

/-! ### laws_FnDirJoined: function 4 -/
mutual
def laws_FnDirJoined.j0 : Nat → List ByteArray → ByteArray → Bool → Option (Bool)
  | 0, _, _, _ => none
  | k + 1, x0, x1, x15 => if x15 = true then (some true) else (if (x0.length : Int) < 1 then (laws_FnDirJoined.j1 k x0 x1 true) else (if (x0.length : Int) > 50 then (laws_FnDirJoined.j1 k x0 x1 true) else (if x1.toList = ([] : List UInt8) then (laws_FnDirJoined.j1 k x0 x1 true) else ((laws_has.f k x1 (⟨#[47]⟩ : ByteArray)).bind fun t107 => (if t107 = true then (laws_FnDirJoined.j1 k x0 x1 true) else (laws_FnDirJoined.j1 k x0 x1 (decide ((x1.size : Int) > 1000))))))))
def laws_FnDirJoined.j1 : Nat → List ByteArray → ByteArray → Bool → Option (Bool)
  | 0, _, _, _ => none
  | k + 1, x0, x1, x36 => if x36 = true then (some true) else (laws_FnDirJoined.l0 k x1 (⟨#[]⟩ : ByteArray) x0 (x0.length : Int) 0)
def laws_FnDirJoined.l0 : Nat → ByteArray → ByteArray → List ByteArray → Int → Int → Option (Bool)
  | 0, _, _, _, _, _ => none
  | k + 1, x1, x5, x37, x38, x39 => if x39 < x38 then (if 0 ≤ x39 then (if x39 < (x37.length : Int) then (if (rdOf ByteArray.empty x37 x39).toList = ([] : List UInt8) then (laws_FnDirJoined.j3 k x1 x5 x39 (rdOf ByteArray.empty x37 x39) x37 x38 x39 true) else ((laws_has.f k (rdOf ByteArray.empty x37 x39) (⟨#[47]⟩ : ByteArray)).bind fun t112 => (if t112 = true then (laws_FnDirJoined.j3 k x1 x5 x39 (rdOf ByteArray.empty x37 x39) x37 x38 x39 true) else (laws_FnDirJoined.j3 k x1 x5 x39 (rdOf ByteArray.empty x37 x39) x37 x38 x39 (decide (((rdOf ByteArray.empty x37 x39).size : Int) > 1000)))))) else (none)) else (none)) else (if x5.size + 1 ≤ 9223372036854775807 then (if (x5 ++ (⟨#[47]⟩ : ByteArray)).size + x1.size ≤ 9223372036854775807 then ((impl_Dir.f k ((x5 ++ (⟨#[47]⟩ : ByteArray)) ++ x1)).bind fun t108 => (if t108.toList = x5.toList then (if 1 + x5.size ≤ 9223372036854775807 then (if ((⟨#[47]⟩ : ByteArray) ++ x5).size + 1 ≤ 9223372036854775807 then (if (((⟨#[47]⟩ : ByteArray) ++ x5) ++ (⟨#[47]⟩ : ByteArray)).size + x1.size ≤ 9223372036854775807 then ((impl_Dir.f k ((((⟨#[47]⟩ : ByteArray) ++ x5) ++ (⟨#[47]⟩ : ByteArray)) ++ x1)).bind fun t109 => (if t109.toList = ((⟨#[47]⟩ : ByteArray) ++ x5).toList then (if 1 + x1.size ≤ 9223372036854775807 then ((impl_Dir.f k ((⟨#[47]⟩ : ByteArray) ++ x1)).bind fun t110 => (some (t110.toList == ([47] : List UInt8)))) else (none)) else (some false))) else (none)) else (none)) else (none)) else (some false))) else (none)) else (none))
def laws_FnDirJoined.j3 : Nat → ByteArray → ByteArray → Int → ByteArray → List ByteArray → Int → Int → Bool → Option (Bool)
  | 0, _, _, _, _, _, _, _, _ => none
  | k + 1, x1, x5, x6, x7, x37, x38, x39, x54 => if x54 = true then (some true) else (if x6 > 0 then (if x5.size + 1 ≤ 9223372036854775807 then (if (x5 ++ (⟨#[47]⟩ : ByteArray)).size + x7.size ≤ 9223372036854775807 then (laws_FnDirJoined.l0 k x1 ((x5 ++ (⟨#[47]⟩ : ByteArray)) ++ x7) x37 x38 (wrap64 (x39 + 1))) else (none)) else (none)) else (if x5.size + x7.size ≤ 9223372036854775807 then (laws_FnDirJoined.l0 k x1 (x5 ++ x7) x37 x38 (wrap64 (x39 + 1))) else (none)))
end
def laws_FnDirJoined.f (k : Nat) (l0 : List ByteArray) (a1 : ByteArray) : Option (Bool) := (laws_zzFits3.f k l0).bind fun t106 => (if t106 = true then (laws_FnDirJoined.j0 k l0 a1 (decide ((a1.size : Int) > 2147483647))) else (laws_FnDirJoined.j0 k l0 a1 true))
theorem laws_FnDirJoined.mono_l : ∀ k, (∀ y0 y1 y2, LeO (laws_FnDirJoined.j0 k y0 y1 y2) (laws_FnDirJoined.j0 (k + 1) y0 y1 y2)) ∧ (∀ y0 y1 y2, LeO (laws_FnDirJoined.j1 k y0 y1 y2) (laws_FnDirJoined.j1 (k + 1) y0 y1 y2)) ∧ (∀ y0 y1 y2 y3 y4, LeO (laws_FnDirJoined.l0 k y0 y1 y2 y3 y4) (laws_FnDirJoined.l0 (k + 1) y0 y1 y2 y3 y4)) ∧ (∀ y0 y1 y2 y3 y4 y5 y6 y7, LeO (laws_FnDirJoined.j3 k y0 y1 y2 y3 y4 y5 y6 y7) (laws_FnDirJoined.j3 (k + 1) y0 y1 y2 y3 y4 y5 y6 y7))
  | 0 => ⟨fun _ _ _ r h => by simp [laws_FnDirJoined.j0] at h, fun _ _ _ r h => by simp [laws_FnDirJoined.j1] at h, fun _ _ _ _ _ r h => by simp [laws_FnDirJoined.l0] at h, fun _ _ _ _ _ _ _ _ r h => by simp [laws_FnDirJoined.j3] at h⟩
  | k + 1 => by
    obtain ⟨ih0, ih1, ih2, ih3⟩ := laws_FnDirJoined.mono_l k
    refine ⟨?_, ?_, ?_, ?_⟩
    · intro y0 y1 y2
      unfold laws_FnDirJoined.j0
      repeat' first
      | (with_reducible exact ih0 _ _ _)
      | (with_reducible exact ih1 _ _ _)
      | (with_reducible exact ih2 _ _ _ _ _)
      | (with_reducible exact ih3 _ _ _ _ _ _ _ _)
      | (with_reducible exact impl_Dir.mono _ _)
      | (with_reducible exact laws_has.mono _ _ _)
      | (with_reducible exact laws_zzFits3.mono _ _)
      | (with_reducible exact LeO.refl _)
      | (with_reducible exact LeO.none _)
      | (with_reducible refine LeO.ite ?_ ?_)
      | (with_reducible refine LeO.bind ?_ (fun _ => ?_))
      | exact ih0 _ _ _
      | exact ih1 _ _ _
      | exact ih2 _ _ _ _ _
      | exact ih3 _ _ _ _ _ _ _ _
      | exact impl_Dir.mono _ _
      | exact laws_has.mono _ _ _
      | exact laws_zzFits3.mono _ _
      | exact LeO.none _
      | refine LeO.ite ?_ ?_
      | refine LeO.bind ?_ (fun _ => ?_)
    · intro y0 y1 y2
      unfold laws_FnDirJoined.j1
      repeat' first
      | (with_reducible exact ih0 _ _ _)
      | (with_reducible exact ih1 _ _ _)
      | (with_reducible exact ih2 _ _ _ _ _)
      | (with_reducible exact ih3 _ _ _ _ _ _ _ _)
      | (with_reducible exact impl_Dir.mono _ _)
      | (with_reducible exact laws_has.mono _ _ _)
      | (with_reducible exact laws_zzFits3.mono _ _)
      | (with_reducible exact LeO.refl _)
      | (with_reducible exact LeO.none _)
      | (with_reducible refine LeO.ite ?_ ?_)
      | (with_reducible refine LeO.bind ?_ (fun _ => ?_))
      | exact ih0 _ _ _
      | exact ih1 _ _ _
      | exact ih2 _ _ _ _ _
      | exact ih3 _ _ _ _ _ _ _ _
      | exact impl_Dir.mono _ _
      | exact laws_has.mono _ _ _
      | exact laws_zzFits3.mono _ _
      | exact LeO.none _
      | refine LeO.ite ?_ ?_
      | refine LeO.bind ?_ (fun _ => ?_)
    · intro y0 y1 y2 y3 y4
      unfold laws_FnDirJoined.l0
      repeat' first
      | (with_reducible exact ih0 _ _ _)
      | (with_reducible exact ih1 _ _ _)
      | (with_reducible exact ih2 _ _ _ _ _)
      | (with_reducible exact ih3 _ _ _ _ _ _ _ _)
      | (with_reducible exact impl_Dir.mono _ _)
      | (with_reducible exact laws_has.mono _ _ _)
      | (with_reducible exact laws_zzFits3.mono _ _)
      | (with_reducible exact LeO.refl _)
      | (with_reducible exact LeO.none _)
      | (with_reducible refine LeO.ite ?_ ?_)
      | (with_reducible refine LeO.bind ?_ (fun _ => ?_))
      | exact ih0 _ _ _
      | exact ih1 _ _ _
      | exact ih2 _ _ _ _ _
      | exact ih3 _ _ _ _ _ _ _ _
      | exact impl_Dir.mono _ _
      | exact laws_has.mono _ _ _
      | exact laws_zzFits3.mono _ _
      | exact LeO.none _
      | refine LeO.ite ?_ ?_
      | refine LeO.bind ?_ (fun _ => ?_)
    · intro y0 y1 y2 y3 y4 y5 y6 y7
      unfold laws_FnDirJoined.j3
      repeat' first
      | (with_reducible exact ih0 _ _ _)
      | (with_reducible exact ih1 _ _ _)
      | (with_reducible exact ih2 _ _ _ _ _)
      | (with_reducible exact ih3 _ _ _ _ _ _ _ _)
      | (with_reducible exact impl_Dir.mono _ _)
      | (with_reducible exact laws_has.mono _ _ _)
      | (with_reducible exact laws_zzFits3.mono _ _)
      | (with_reducible exact LeO.refl _)
      | (with_reducible exact LeO.none _)
      | (with_reducible refine LeO.ite ?_ ?_)
      | (with_reducible refine LeO.bind ?_ (fun _ => ?_))
      | exact ih0 _ _ _
      | exact ih1 _ _ _
      | exact ih2 _ _ _ _ _
      | exact ih3 _ _ _ _ _ _ _ _
      | exact impl_Dir.mono _ _
      | exact laws_has.mono _ _ _
      | exact laws_zzFits3.mono _ _
      | exact LeO.none _
      | refine LeO.ite ?_ ?_
      | refine LeO.bind ?_ (fun _ => ?_)
theorem laws_FnDirJoined.mono : ∀ a0 a1 k, LeO (laws_FnDirJoined.f k a0 a1) (laws_FnDirJoined.f (k + 1) a0 a1) := by
  intro a0 a1 k
  obtain ⟨ih0, ih1, ih2, ih3⟩ := laws_FnDirJoined.mono_l k
  unfold laws_FnDirJoined.f
  repeat' first
      | (with_reducible exact ih0 _ _ _)
      | (with_reducible exact ih1 _ _ _)
      | (with_reducible exact ih2 _ _ _ _ _)
      | (with_reducible exact ih3 _ _ _ _ _ _ _ _)
      | (with_reducible exact impl_Dir.mono _ _)
      | (with_reducible exact laws_has.mono _ _ _)
      | (with_reducible exact laws_zzFits3.mono _ _)
      | (with_reducible exact LeO.refl _)
      | (with_reducible exact LeO.none _)
      | (with_reducible refine LeO.ite ?_ ?_)
      | (with_reducible refine LeO.bind ?_ (fun _ => ?_))
      | exact ih0 _ _ _
      | exact ih1 _ _ _
      | exact ih2 _ _ _ _ _
      | exact ih3 _ _ _ _ _ _ _ _
      | exact impl_Dir.mono _ _
      | exact laws_has.mono _ _ _
      | exact laws_zzFits3.mono _ _
      | exact LeO.none _
      | refine LeO.ite ?_ ?_
      | refine LeO.bind ?_ (fun _ => ?_)
set_option maxHeartbeats 8000000 in
set_option maxRecDepth 100000 in
theorem laws_FnDirJoined.calls (k : Nat) (A0 : Option Addr) (c0 : Nat) (l0 : List ByteArray) (a1 : ByteArray) (r : Bool) (w : World) (hr0 : Kd.C Kd.string w A0 l0.length l0) (hc0 : l0.length ≤ c0) (h : laws_FnDirJoined.f k l0 a1 = some r) :
    Calls Try.prog 4 #[.slice A0 l0.length c0, .string a1] w fun e w' => e = .returned (.bool r) ∧ Drawn0 w w' := by
  have HR0 := Aside0.mk hr0
  have HC0 := Aside0.mk hc0
  clear hr0 hc0
  have H : ((laws_zzFits3.f k l0).bind fun t106 => (if t106 = true then (laws_FnDirJoined.j0 k l0 a1 (decide ((a1.size : Int) > 2147483647))) else (laws_FnDirJoined.j0 k l0 a1 true))) = some r := h
  clear h
  have HC3 := Aside0.mk H
  clear H
  go_enter Try.func4, Try.ntmps4
  go_upto_region 1 with (fail)
  go_cut [15] (fun v15 wc => ∃ (kq : Nat) (x15_2 : Bool), v15 = .bool x15_2 ∧ Aside0 (laws_FnDirJoined.j0 kq l0 a1 x15_2 = some r) ∧ Aside0 (kq ≤ k) ∧ Drawn0 w wc)
  case first =>
    have H := HC3.out
    clear HC3
    replace H := Option.bind_eq_some_iff.mp H
    obtain ⟨t106, A40, H⟩ := H
    replace H : (if t106 = true then (laws_FnDirJoined.j0 k l0 a1 (decide ((a1.size : Int) > 2147483647))) else (laws_FnDirJoined.j0 k l0 a1 true)) = some r := H
    have A4 := Aside0.mk A40
    clear A40
    by_cases c5 : t106 = true
    · subst c5
      have H1 : (laws_FnDirJoined.j0 k l0 a1 (decide ((a1.size : Int) > 2147483647))) = some r := by rw [if_pos rfl] at H; exact H
      clear H
      have H := H1
      clear H1
      have H' := Aside0.mk H
      clear H
      go_wp2_with (first | ((with_reducible refine gate_callee (f := 12) rfl ?_); refine goesL_ (some 9) rfl rfl Try.func12 (by kernel_rfl) rfl #[.slice A0 l0.length c0] rfl (by (try simp only [List.map_toArray, List.map_cons, List.map_nil]); first | done | rfl | (simp only [List.length_drop, List.length_take]; rfl)) ?_; (with_reducible refine (laws_zzFits3.calls k _ _ l0 true _ ?side1 ?side2 A4.out).mono ?_); (case side1 => repeat (first | exact HR0.out | (with_reducible refine Kd.C_alloc ?_ _) | (with_reducible refine Kd.C_drewN ?_ _) | (with_reducible refine Kd.C_drew ?_))); (case side2 => exact HC0.out); rintro e w' ⟨rfl, ⟨nd, rfl⟩⟩; refine ⟨_, rfl, ?_⟩))
      go_meet
      case rel => exact ⟨_, (decide ((a1.size : Int) > 2147483647)), (by first | rfl | (simp; done) | (simp [*]; done)), H', ⟨by first | omega | exact Nat.le_refl _⟩, by repeat (first | exact Drawn0.refl _ | apply Drawn0.step)⟩
    · replace c5 := Bool.eq_false_iff.mpr c5
      subst c5
      have H1 : (laws_FnDirJoined.j0 k l0 a1 true) = some r := by rw [if_neg (show ¬ (false = true) by decide)] at H; exact H
      clear H
      have H := H1
      clear H1
      have H' := Aside0.mk H
      clear H
      go_wp2_with (first | ((with_reducible refine gate_callee (f := 12) rfl ?_); refine goesL_ (some 9) rfl rfl Try.func12 (by kernel_rfl) rfl #[.slice A0 l0.length c0] rfl (by (try simp only [List.map_toArray, List.map_cons, List.map_nil]); first | done | rfl | (simp only [List.length_drop, List.length_take]; rfl)) ?_; (with_reducible refine (laws_zzFits3.calls k _ _ l0 false _ ?side1 ?side2 A4.out).mono ?_); (case side1 => repeat (first | exact HR0.out | (with_reducible refine Kd.C_alloc ?_ _) | (with_reducible refine Kd.C_drewN ?_ _) | (with_reducible refine Kd.C_drew ?_))); (case side2 => exact HC0.out); rintro e w' ⟨rfl, ⟨nd, rfl⟩⟩; refine ⟨_, rfl, ?_⟩))
      go_meet
      case rel => exact ⟨_, (true), (by first | rfl | (simp; done) | (simp [*]; done)), H', ⟨by first | omega | exact Nat.le_refl _⟩, by repeat (first | exact Drawn0.refl _ | apply Drawn0.step)⟩
  case rest =>
    clear HC3
    try clear c1
    try clear p2
    try clear c4
    try clear c5
    obtain ⟨kq, x15_2, rfl, HA, HJ2, ⟨mc2, rfl⟩⟩ := hcut
    cases kq with
    | zero => exact absurd HA.out (by simp [laws_FnDirJoined.j0])
    | succ kj2 =>
      have H := HA.out
      clear HA
      simp only [laws_FnDirJoined.j0] at H
      by_cases c6 : x15_2 = true
      · subst c6
        have H1 : (some true) = some r := by rw [if_pos rfl] at H; exact H
        clear H
        have H := H1
        clear H1
        obtain rfl := Option.some.inj H
        go_wp2
        go_ret
        exact ⟨by first | rfl | (simp; done) | (simp [*]; done), by repeat (first | exact Drawn0.refl _ | apply Drawn0.step)⟩
      · replace c6 := Bool.eq_false_iff.mpr c6
        subst c6
        have H1 : (if (l0.length : Int) < 1 then (laws_FnDirJoined.j1 kj2 l0 a1 true) else (if (l0.length : Int) > 50 then (laws_FnDirJoined.j1 kj2 l0 a1 true) else (if a1.toList = ([] : List UInt8) then (laws_FnDirJoined.j1 kj2 l0 a1 true) else ((laws_has.f kj2 a1 (⟨#[47]⟩ : ByteArray)).bind fun t107 => (if t107 = true then (laws_FnDirJoined.j1 kj2 l0 a1 true) else (laws_FnDirJoined.j1 kj2 l0 a1 (decide ((a1.size : Int) > 1000)))))))) = some r := by rw [if_neg (show ¬ (false = true) by decide)] at H; exact H
        clear H
        have H := H1
        clear H1
        have HC7 := Aside0.mk H
        clear H
        go_upto_region 3 with (fail)
        go_cut [36] (fun v36 wc => ∃ (kq : Nat) (x36_6 : Bool), v36 = .bool x36_6 ∧ Aside0 (laws_FnDirJoined.j1 kq l0 a1 x36_6 = some r) ∧ Aside0 (kq ≤ kj2) ∧ Drawn0 w wc)
        case first =>
          have H := HC7.out
          clear HC7
          by_cases c8 : (l0.length : Int) < 1
          · rw [if_pos c8] at H
            have c8b0 : decide ((l0.length : Int) < 1) = true := decide_eq_true c8
            have c8b1 : decide (l0.length < 1) = true := decide_eq_true (by omega)
            clear c8
            (first | rw [c8b0] | (simp only [i64_w, i32_w]; rw [c8b0]) | skip)
            have H' := Aside0.mk H
            clear H
            go_wp2
            go_meet
            case rel => exact ⟨_, (true), (by first | rfl | (simp; done) | (simp [*]; done)), H', ⟨by have := HJ2.out; first | omega | exact Nat.le_refl _⟩, by repeat (first | exact Drawn0.refl _ | apply Drawn0.step)⟩
          · rw [if_neg c8] at H
            have c8b0 : decide ((l0.length : Int) < 1) = false := decide_eq_false c8
            have c8b1 : decide (l0.length < 1) = false := decide_eq_false (by omega)
            clear c8
            (first | rw [c8b0] | (simp only [i64_w, i32_w]; rw [c8b0]) | skip)
            by_cases c9 : (l0.length : Int) > 50
            · rw [if_pos c9] at H
              have c9b0 : decide (50 < (l0.length : Int)) = true := decide_eq_true c9
              have c9b1 : decide (50 < l0.length) = true := decide_eq_true (by omega)
              clear c9
              have H' := Aside0.mk H
              clear H
              go_wp2
              go_meet
              case rel => exact ⟨_, (true), (by first | rfl | (simp; done) | (simp [*]; done)), H', ⟨by have := HJ2.out; first | omega | exact Nat.le_refl _⟩, by repeat (first | exact Drawn0.refl _ | apply Drawn0.step)⟩
            · rw [if_neg c9] at H
              have c9b0 : decide (50 < (l0.length : Int)) = false := decide_eq_false c9
              have c9b1 : decide (50 < l0.length) = false := decide_eq_false (by omega)
              clear c9
              by_cases c10 : a1.toList = ([] : List UInt8)
              · rw [if_pos c10] at H
                have c10b0 : (a1.toList == ([] : List UInt8)) = true := beq_iff_eq.mpr c10
                have c10b1 : (a1.toList != ([] : List UInt8)) = false := bne_eq_false_iff_eq.mpr c10
                clear c10
                have H' := Aside0.mk H
                clear H
                go_wp2
                go_meet
                case rel => exact ⟨_, (true), (by first | rfl | (simp; done) | (simp [*]; done)), H', ⟨by have := HJ2.out; first | omega | exact Nat.le_refl _⟩, by repeat (first | exact Drawn0.refl _ | apply Drawn0.step)⟩
              · rw [if_neg c10] at H
                have c10b0 : (a1.toList == ([] : List UInt8)) = false := beq_eq_false_iff_ne.mpr c10
                have c10b1 : (a1.toList != ([] : List UInt8)) = true := bne_iff_ne.mpr c10
                replace H := Option.bind_eq_some_iff.mp H
                obtain ⟨t107, A110, H⟩ := H
                replace H : (if t107 = true then (laws_FnDirJoined.j1 kj2 l0 a1 true) else (laws_FnDirJoined.j1 kj2 l0 a1 (decide ((a1.size : Int) > 1000)))) = some r := H
                have A11 := Aside0.mk A110
                clear A110
                by_cases c12 : t107 = true
                · subst c12
                  have H1 : (laws_FnDirJoined.j1 kj2 l0 a1 true) = some r := by rw [if_pos rfl] at H; exact H
                  clear H
                  have H := H1
                  clear H1
                  have H' := Aside0.mk H
                  clear H
                  go_wp2_with (first | (go_at_call 13; (with_reducible refine (laws_has.calls kj2 a1 (⟨#[47]⟩ : ByteArray) true _ A11.out).mono ?_); rintro e w' ⟨rfl, ⟨nd, rfl⟩⟩))
                  go_meet
                  case rel => exact ⟨_, (true), (by first | rfl | (simp; done) | (simp [*]; done)), H', ⟨by have := HJ2.out; first | omega | exact Nat.le_refl _⟩, by repeat (first | exact Drawn0.refl _ | apply Drawn0.step)⟩
                · replace c12 := Bool.eq_false_iff.mpr c12
                  subst c12
                  have H1 : (laws_FnDirJoined.j1 kj2 l0 a1 (decide ((a1.size : Int) > 1000))) = some r := by rw [if_neg (show ¬ (false = true) by decide)] at H; exact H
                  clear H
                  have H := H1
                  clear H1
                  have H' := Aside0.mk H
                  clear H
                  go_wp2_with (first | (go_at_call 13; (with_reducible refine (laws_has.calls kj2 a1 (⟨#[47]⟩ : ByteArray) false _ A11.out).mono ?_); rintro e w' ⟨rfl, ⟨nd, rfl⟩⟩))
                  go_meet
                  case rel => exact ⟨_, (decide ((a1.size : Int) > 1000)), (by first | rfl | (simp; done) | (simp [*]; done)), H', ⟨by have := HJ2.out; first | omega | exact Nat.le_refl _⟩, by repeat (first | exact Drawn0.refl _ | apply Drawn0.step)⟩
        case rest =>
          clear HC7
          try clear c1
          try clear c2
          try clear p2
          try clear c4
          try clear c5
          try clear c6
          try clear c8
          try clear c8b0
          try clear c8b1
          try clear c9
          try clear c9b0
          try clear c9b1
          try clear c10
          try clear c10b0
          try clear c10b1
          try clear c12
          try clear p2
          obtain ⟨kq, x36_6, rfl, HA, HJ6, ⟨mc6, rfl⟩⟩ := hcut
          cases kq with
          | zero => exact absurd HA.out (by simp [laws_FnDirJoined.j1])
          | succ kj6 =>
            have H := HA.out
            clear HA
            simp only [laws_FnDirJoined.j1] at H
            by_cases c13 : x36_6 = true
            · subst c13
              have H1 : (some true) = some r := by rw [if_pos rfl] at H; exact H
              clear H
              have H := H1
              clear H1
              obtain rfl := Option.some.inj H
              go_wp2
              go_ret
              exact ⟨by first | rfl | (simp; done) | (simp [*]; done), by repeat (first | exact Drawn0.refl _ | apply Drawn0.step)⟩
            · replace c13 := Bool.eq_false_iff.mpr c13
              subst c13
              have H1 : (laws_FnDirJoined.l0 kj6 a1 (⟨#[]⟩ : ByteArray) l0 (l0.length : Int) 0) = some r := by rw [if_neg (show ¬ (false = true) by decide)] at H; exact H
              clear H
              have H := H1
              clear H1
              have H' := Aside0.mk H
              clear H
              go_wp2
              go_loopg [5, 39] kj6 (fun kq v5 v39 w' => ∃ (x5_3 : ByteArray) (x39_3 : Int), v5 = .string x5_3 ∧ v39 = .int .i64 x39_3 ∧ Aside0 (laws_FnDirJoined.l0 kq a1 x5_3 l0 (l0.length : Int) x39_3 = some r) ∧ Aside0 (kq ≤ kj6) ∧ Drawn0 w w')
              case atStart => exact ⟨((⟨#[]⟩ : ByteArray)), (0), (by first | rfl | (simp; done) | (simp [*]; done)), (by first | rfl | (simp; done) | (simp [*]; done)), H', ⟨Nat.le_refl _⟩, by repeat (first | exact Drawn0.refl _ | apply Drawn0.step)⟩
              case round =>
                clear H'
                try clear c1
                try clear c2
                try clear p2
                try clear c4
                try clear c5
                try clear c6
                try clear c8
                try clear c8b0
                try clear c8b1
                try clear c9
                try clear c9b0
                try clear c9b1
                try clear c10
                try clear c10b0
                try clear c10b1
                try clear c12
                try clear c13
                try clear p2
                obtain ⟨x5_3, x39_3, rfl, rfl, HA, HK3, ⟨m3, rfl⟩⟩ := hrel
                cases gk with
                | zero => exact absurd HA.out (by simp [laws_FnDirJoined.l0])
                | succ k3 =>
                  have H := HA.out
                  clear HA
                  simp only [laws_FnDirJoined.l0] at H
                  by_cases c14 : x39_3 < (l0.length : Int)
                  · rw [if_pos c14] at H
                    have c14b0 : decide (x39_3 < (l0.length : Int)) = true := decide_eq_true c14
                    clear c14
                    by_cases c15 : 0 ≤ x39_3
                    · rw [if_pos c15] at H
                      have c15b0 : decide (0 ≤ x39_3) = true := decide_eq_true c15
                      clear c15
                      by_cases c16 : x39_3 < (l0.length : Int)
                      · rw [if_pos c16] at H
                        have c16b0 : decide (x39_3 < (l0.length : Int)) = true := decide_eq_true c16
                        clear c16
                        have HC17 := Aside0.mk H
                        clear H
                        have p111 : 0 ≤ (x39_3 : Int) := of_decide_eq_true (by first | (with_reducible assumption) | assumption)
                        have q111 : x39_3 < (l0.length : Int) := of_decide_eq_true (by first | (with_reducible assumption) | assumption)
                        obtain ⟨ad111, e111, hx111_0⟩ := Kd.at_string HR0.out x39_3 p111 q111
                        cases e111
                        replace p111 := eq_true p111
                        replace q111 := eq_true q111
                        go_upto_region 9 with (fail)
                        go_cut [54] (fun v54 wc => ∃ (kq : Nat) (x54_16 : Bool), v54 = .bool x54_16 ∧ Aside0 (laws_FnDirJoined.j3 kq a1 x5_3 x39_3 (rdOf ByteArray.empty l0 x39_3) l0 (l0.length : Int) x39_3 x54_16 = some r) ∧ Aside0 (kq ≤ k3) ∧ Drawn0 w wc)
                        case first =>
                          have H := HC17.out
                          clear HC17
                          by_cases c18 : (rdOf ByteArray.empty l0 x39_3).toList = ([] : List UInt8)
                          · rw [if_pos c18] at H
                            have c18b0 : ((rdOf ByteArray.empty l0 x39_3).toList == ([] : List UInt8)) = true := beq_iff_eq.mpr c18
                            have c18b1 : ((rdOf ByteArray.empty l0 x39_3).toList != ([] : List UInt8)) = false := bne_eq_false_iff_eq.mpr c18
                            clear c18
                            (first | rw [c18b0] | (simp only [i64_w, i32_w]; rw [c18b0]) | skip)
                            have H' := Aside0.mk H
                            clear H
                            go_wp2
                            go_meet
                            case rel => exact ⟨_, (true), (by first | rfl | (simp; done) | (simp [*]; done)), H', ⟨by have := HJ2.out; have := HJ6.out; have := HK3.out; first | omega | exact Nat.le_refl _⟩, by repeat (first | exact Drawn0.refl _ | apply Drawn0.step)⟩
                          · rw [if_neg c18] at H
                            have c18b0 : ((rdOf ByteArray.empty l0 x39_3).toList == ([] : List UInt8)) = false := beq_eq_false_iff_ne.mpr c18
                            have c18b1 : ((rdOf ByteArray.empty l0 x39_3).toList != ([] : List UInt8)) = true := bne_iff_ne.mpr c18
                            (first | rw [c18b0] | (simp only [i64_w, i32_w]; rw [c18b0]) | skip)
                            replace H := Option.bind_eq_some_iff.mp H
                            obtain ⟨t112, A190, H⟩ := H
                            replace H : (if t112 = true then (laws_FnDirJoined.j3 k3 a1 x5_3 x39_3 (rdOf ByteArray.empty l0 x39_3) l0 (l0.length : Int) x39_3 true) else (laws_FnDirJoined.j3 k3 a1 x5_3 x39_3 (rdOf ByteArray.empty l0 x39_3) l0 (l0.length : Int) x39_3 (decide (((rdOf ByteArray.empty l0 x39_3).size : Int) > 1000)))) = some r := H
                            have A19 := Aside0.mk A190
                            clear A190
                            by_cases c20 : t112 = true
                            · subst c20
                              have H1 : (laws_FnDirJoined.j3 k3 a1 x5_3 x39_3 (rdOf ByteArray.empty l0 x39_3) l0 (l0.length : Int) x39_3 true) = some r := by rw [if_pos rfl] at H; exact H
                              clear H
                              have H := H1
                              clear H1
                              have H' := Aside0.mk H
                              clear H
                              go_wp2_with (first | (go_at_call 13; (with_reducible refine (laws_has.calls k3 (rdOf ByteArray.empty l0 x39_3) (⟨#[47]⟩ : ByteArray) true _ A19.out).mono ?_); rintro e w' ⟨rfl, ⟨nd, rfl⟩⟩))
                              go_meet
                              case rel => exact ⟨_, (true), (by first | rfl | (simp; done) | (simp [*]; done)), H', ⟨by have := HJ2.out; have := HJ6.out; have := HK3.out; first | omega | exact Nat.le_refl _⟩, by repeat (first | exact Drawn0.refl _ | apply Drawn0.step)⟩
                            · replace c20 := Bool.eq_false_iff.mpr c20
                              subst c20
                              have H1 : (laws_FnDirJoined.j3 k3 a1 x5_3 x39_3 (rdOf ByteArray.empty l0 x39_3) l0 (l0.length : Int) x39_3 (decide (((rdOf ByteArray.empty l0 x39_3).size : Int) > 1000))) = some r := by rw [if_neg (show ¬ (false = true) by decide)] at H; exact H
                              clear H
                              have H := H1
                              clear H1
                              have H' := Aside0.mk H
                              clear H
                              go_wp2_with (first | (go_at_call 13; (with_reducible refine (laws_has.calls k3 (rdOf ByteArray.empty l0 x39_3) (⟨#[47]⟩ : ByteArray) false _ A19.out).mono ?_); rintro e w' ⟨rfl, ⟨nd, rfl⟩⟩))
                              go_meet
                              case rel => exact ⟨_, (decide (((rdOf ByteArray.empty l0 x39_3).size : Int) > 1000)), (by first | rfl | (simp; done) | (simp [*]; done)), H', ⟨by have := HJ2.out; have := HJ6.out; have := HK3.out; first | omega | exact Nat.le_refl _⟩, by repeat (first | exact Drawn0.refl _ | apply Drawn0.step)⟩
                        case rest =>
                          clear HC17
                          try clear c1
                          try clear p1
                          try clear q1
                          try clear hx1
                          try clear c2
                          try clear p2
                          try clear c4
                          try clear c5
                          try clear c6
                          try clear c8
                          try clear c8b0
                          try clear c8b1
                          try clear c9
                          try clear c9b0
                          try clear c9b1
                          try clear c10
                          try clear c10b0
                          try clear c10b1
                          try clear p11
                          try clear q11
                          try clear hx11
                          try clear c12
                          try clear c13
                          try clear c14
                          try clear c14b0
                          try clear c15
                          try clear c15b0
                          try clear c16
                          try clear c16b0
                          try clear c18
                          try clear c18b0
                          try clear c18b1
                          try clear c20
                          try clear hx111_0
                          try clear p111
                          try clear p2
                          try clear q111
                          obtain ⟨kq, x54_16, rfl, HA, HJ16, ⟨mc16, rfl⟩⟩ := hcut
                          cases kq with
                          | zero => exact absurd HA.out (by simp [laws_FnDirJoined.j3])
                          | succ kj16 =>
                            have H := HA.out
                            clear HA
                            simp only [laws_FnDirJoined.j3] at H
                            by_cases c21 : x54_16 = true
                            · subst c21
                              have H1 : (some true) = some r := by rw [if_pos rfl] at H; exact H
                              clear H
                              have H := H1
                              clear H1
                              obtain rfl := Option.some.inj H
                              go_wp2
                              go_ret
                              exact ⟨by first | rfl | (simp; done) | (simp [*]; done), by repeat (first | exact Drawn0.refl _ | apply Drawn0.step)⟩
                            · replace c21 := Bool.eq_false_iff.mpr c21
                              subst c21
                              have H1 : (if x39_3 > 0 then (if x5_3.size + 1 ≤ 9223372036854775807 then (if (x5_3 ++ (⟨#[47]⟩ : ByteArray)).size + (rdOf ByteArray.empty l0 x39_3).size ≤ 9223372036854775807 then (laws_FnDirJoined.l0 kj16 a1 ((x5_3 ++ (⟨#[47]⟩ : ByteArray)) ++ (rdOf ByteArray.empty l0 x39_3)) l0 (l0.length : Int) (wrap64 (x39_3 + 1))) else (none)) else (none)) else (if x5_3.size + (rdOf ByteArray.empty l0 x39_3).size ≤ 9223372036854775807 then (laws_FnDirJoined.l0 kj16 a1 (x5_3 ++ (rdOf ByteArray.empty l0 x39_3)) l0 (l0.length : Int) (wrap64 (x39_3 + 1))) else (none))) = some r := by rw [if_neg (show ¬ (false = true) by decide)] at H; exact H
                              clear H
                              have H := H1
                              clear H1
                              by_cases c22 : x39_3 > 0
                              · rw [if_pos c22] at H
                                have c22b0 : decide (0 < x39_3) = true := decide_eq_true c22
                                clear c22
                                by_cases c23 : x5_3.size + 1 ≤ 9223372036854775807
                                · rw [if_pos c23] at H
                                  have c23b0 := eq_true c23
                                  have c23b1 : decide (x5_3.size + 1 ≤ 9223372036854775807) = true := decide_eq_true c23
                                  try have c23b2 : (9223372036854775807 < x5_3.size + 1) = False := eq_false (Nat.not_lt.2 c23)
                                  by_cases c24 : (x5_3 ++ (⟨#[47]⟩ : ByteArray)).size + (rdOf ByteArray.empty l0 x39_3).size ≤ 9223372036854775807
                                  · rw [if_pos c24] at H
                                    have c24b0 := eq_true c24
                                    have c24b1 : decide ((x5_3 ++ (⟨#[47]⟩ : ByteArray)).size + (rdOf ByteArray.empty l0 x39_3).size ≤ 9223372036854775807) = true := decide_eq_true c24
                                    try have c24b2 : (9223372036854775807 < (x5_3 ++ (⟨#[47]⟩ : ByteArray)).size + (rdOf ByteArray.empty l0 x39_3).size) = False := eq_false (Nat.not_lt.2 c24)
                                    try (have c24n := c24; simp only [ByteArray.size_append, ByteArray.size, List.size_toArray, List.length_cons, List.length_nil, Nat.zero_add, Nat.reduceAdd] at c24n; simp at c24n; have c24n0 := eq_true c24n; have c24n1 := eq_false (Nat.not_lt.2 c24n); have c24n2 := decide_eq_true c24n)
                                    have H' := Aside0.mk H
                                    clear H
                                    go_wp2
                                    go_roundg kj16
                                    case measure => have := HJ2.out; have := HJ6.out; have := HK3.out; have := HJ16.out; omega
                                    case rel => exact ⟨((x5_3 ++ (⟨#[47]⟩ : ByteArray)) ++ (rdOf ByteArray.empty l0 x39_3)), (wrap64 (x39_3 + 1)), (by first | rfl | (simp; done) | (simp [*]; done)), (by first | rfl | (simp; done) | (simp [*]; done)), H', ⟨by have := HJ2.out; have := HJ6.out; have := HK3.out; have := HJ16.out; omega⟩, by repeat (first | exact Drawn0.refl _ | apply Drawn0.step)⟩
                                  · rw [if_neg c24] at H
                                    exact absurd H (by simp)
                                · rw [if_neg c23] at H
                                  exact absurd H (by simp)
                              · rw [if_neg c22] at H
                                have c22b0 : decide (0 < x39_3) = false := decide_eq_false c22
                                clear c22
                                by_cases c25 : x5_3.size + (rdOf ByteArray.empty l0 x39_3).size ≤ 9223372036854775807
                                · rw [if_pos c25] at H
                                  have c25b0 := eq_true c25
                                  have c25b1 : decide (x5_3.size + (rdOf ByteArray.empty l0 x39_3).size ≤ 9223372036854775807) = true := decide_eq_true c25
                                  try have c25b2 : (9223372036854775807 < x5_3.size + (rdOf ByteArray.empty l0 x39_3).size) = False := eq_false (Nat.not_lt.2 c25)
                                  have H' := Aside0.mk H
                                  clear H
                                  go_wp2
                                  go_roundg kj16
                                  case measure => have := HJ2.out; have := HJ6.out; have := HK3.out; have := HJ16.out; omega
                                  case rel => exact ⟨(x5_3 ++ (rdOf ByteArray.empty l0 x39_3)), (wrap64 (x39_3 + 1)), (by first | rfl | (simp; done) | (simp [*]; done)), (by first | rfl | (simp; done) | (simp [*]; done)), H', ⟨by have := HJ2.out; have := HJ6.out; have := HK3.out; have := HJ16.out; omega⟩, by repeat (first | exact Drawn0.refl _ | apply Drawn0.step)⟩
                                · rw [if_neg c25] at H
                                  exact absurd H (by simp)
                      · rw [if_neg c16] at H
                        exact absurd H (by simp)
                    · rw [if_neg c15] at H
                      exact absurd H (by simp)
                  · rw [if_neg c14] at H
                    have c14b0 : decide (x39_3 < (l0.length : Int)) = false := decide_eq_false c14
                    clear c14
                    by_cases c26 : x5_3.size + 1 ≤ 9223372036854775807
                    · rw [if_pos c26] at H
                      have c26b0 := eq_true c26
                      have c26b1 : decide (x5_3.size + 1 ≤ 9223372036854775807) = true := decide_eq_true c26
                      try have c26b2 : (9223372036854775807 < x5_3.size + 1) = False := eq_false (Nat.not_lt.2 c26)
                      by_cases c27 : (x5_3 ++ (⟨#[47]⟩ : ByteArray)).size + a1.size ≤ 9223372036854775807
                      · rw [if_pos c27] at H
                        have c27b0 := eq_true c27
                        have c27b1 : decide ((x5_3 ++ (⟨#[47]⟩ : ByteArray)).size + a1.size ≤ 9223372036854775807) = true := decide_eq_true c27
                        try have c27b2 : (9223372036854775807 < (x5_3 ++ (⟨#[47]⟩ : ByteArray)).size + a1.size) = False := eq_false (Nat.not_lt.2 c27)
                        try (have c27n := c27; simp only [ByteArray.size_append, ByteArray.size, List.size_toArray, List.length_cons, List.length_nil, Nat.zero_add, Nat.reduceAdd] at c27n; simp at c27n; have c27n0 := eq_true c27n; have c27n1 := eq_false (Nat.not_lt.2 c27n); have c27n2 := decide_eq_true c27n)
                        replace H := Option.bind_eq_some_iff.mp H
                        obtain ⟨t108, A280, H⟩ := H
                        replace H : (if t108.toList = x5_3.toList then (if 1 + x5_3.size ≤ 9223372036854775807 then (if ((⟨#[47]⟩ : ByteArray) ++ x5_3).size + 1 ≤ 9223372036854775807 then (if (((⟨#[47]⟩ : ByteArray) ++ x5_3) ++ (⟨#[47]⟩ : ByteArray)).size + a1.size ≤ 9223372036854775807 then ((impl_Dir.f k3 ((((⟨#[47]⟩ : ByteArray) ++ x5_3) ++ (⟨#[47]⟩ : ByteArray)) ++ a1)).bind fun t109 => (if t109.toList = ((⟨#[47]⟩ : ByteArray) ++ x5_3).toList then (if 1 + a1.size ≤ 9223372036854775807 then ((impl_Dir.f k3 ((⟨#[47]⟩ : ByteArray) ++ a1)).bind fun t110 => (some (t110.toList == ([47] : List UInt8)))) else (none)) else (some false))) else (none)) else (none)) else (none)) else (some false)) = some r := H
                        have A28 := Aside0.mk A280
                        clear A280
                        by_cases c29 : t108.toList = x5_3.toList
                        · rw [if_pos c29] at H
                          have c29b0 : (t108.toList == x5_3.toList) = true := beq_iff_eq.mpr c29
                          have c29b1 : (t108.toList != x5_3.toList) = false := bne_eq_false_iff_eq.mpr c29
                          clear c29
                          by_cases c30 : 1 + x5_3.size ≤ 9223372036854775807
                          · rw [if_pos c30] at H
                            have c30b0 := eq_true c30
                            have c30b1 : decide (1 + x5_3.size ≤ 9223372036854775807) = true := decide_eq_true c30
                            try have c30b2 : (9223372036854775807 < 1 + x5_3.size) = False := eq_false (Nat.not_lt.2 c30)
                            by_cases c31 : ((⟨#[47]⟩ : ByteArray) ++ x5_3).size + 1 ≤ 9223372036854775807
                            · rw [if_pos c31] at H
                              have c31b0 := eq_true c31
                              have c31b1 : decide (((⟨#[47]⟩ : ByteArray) ++ x5_3).size + 1 ≤ 9223372036854775807) = true := decide_eq_true c31
                              try have c31b2 : (9223372036854775807 < ((⟨#[47]⟩ : ByteArray) ++ x5_3).size + 1) = False := eq_false (Nat.not_lt.2 c31)
                              try (have c31n := c31; simp only [ByteArray.size_append, ByteArray.size, List.size_toArray, List.length_cons, List.length_nil, Nat.zero_add, Nat.reduceAdd] at c31n; simp at c31n; have c31n0 := eq_true c31n; have c31n1 := eq_false (Nat.not_lt.2 c31n); have c31n2 := decide_eq_true c31n)
                              by_cases c32 : (((⟨#[47]⟩ : ByteArray) ++ x5_3) ++ (⟨#[47]⟩ : ByteArray)).size + a1.size ≤ 9223372036854775807
                              · rw [if_pos c32] at H
                                have c32b0 := eq_true c32
                                have c32b1 : decide ((((⟨#[47]⟩ : ByteArray) ++ x5_3) ++ (⟨#[47]⟩ : ByteArray)).size + a1.size ≤ 9223372036854775807) = true := decide_eq_true c32
                                try have c32b2 : (9223372036854775807 < (((⟨#[47]⟩ : ByteArray) ++ x5_3) ++ (⟨#[47]⟩ : ByteArray)).size + a1.size) = False := eq_false (Nat.not_lt.2 c32)
                                try (have c32n := c32; simp only [ByteArray.size_append, ByteArray.size, List.size_toArray, List.length_cons, List.length_nil, Nat.zero_add, Nat.reduceAdd] at c32n; simp at c32n; have c32n0 := eq_true c32n; have c32n1 := eq_false (Nat.not_lt.2 c32n); have c32n2 := decide_eq_true c32n)
                                replace H := Option.bind_eq_some_iff.mp H
                                obtain ⟨t109, A330, H⟩ := H
                                replace H : (if t109.toList = ((⟨#[47]⟩ : ByteArray) ++ x5_3).toList then (if 1 + a1.size ≤ 9223372036854775807 then ((impl_Dir.f k3 ((⟨#[47]⟩ : ByteArray) ++ a1)).bind fun t110 => (some (t110.toList == ([47] : List UInt8)))) else (none)) else (some false)) = some r := H
                                have A33 := Aside0.mk A330
                                clear A330
                                by_cases c34 : t109.toList = ((⟨#[47]⟩ : ByteArray) ++ x5_3).toList
                                · rw [if_pos c34] at H
                                  have c34b0 : (t109.toList == ((⟨#[47]⟩ : ByteArray) ++ x5_3).toList) = true := beq_iff_eq.mpr c34
                                  have c34b1 : (t109.toList != ((⟨#[47]⟩ : ByteArray) ++ x5_3).toList) = false := bne_eq_false_iff_eq.mpr c34
                                  clear c34
                                  by_cases c35 : 1 + a1.size ≤ 9223372036854775807
                                  · rw [if_pos c35] at H
                                    have c35b0 := eq_true c35
                                    have c35b1 : decide (1 + a1.size ≤ 9223372036854775807) = true := decide_eq_true c35
                                    try have c35b2 : (9223372036854775807 < 1 + a1.size) = False := eq_false (Nat.not_lt.2 c35)
                                    replace H := Option.bind_eq_some_iff.mp H
                                    obtain ⟨t110, A360, H⟩ := H
                                    replace H : (some (t110.toList == ([47] : List UInt8))) = some r := H
                                    have A36 := Aside0.mk A360
                                    clear A360
                                    obtain rfl := Option.some.inj H
                                    go_wp2_with (first | ((with_reducible refine gate_callee (f := 10) rfl ?_); refine goesL_ (some 67) rfl rfl Try.func10 (by kernel_rfl) rfl #[.string ((x5_3 ++ (⟨#[47]⟩ : ByteArray)) ++ a1)] rfl (by (try simp only [List.map_toArray, List.map_cons, List.map_nil]); first | done | rfl | (simp only [List.length_drop, List.length_take]; rfl)) ?_; (with_reducible refine (impl_Dir.calls k3 ((x5_3 ++ (⟨#[47]⟩ : ByteArray)) ++ a1) t108 _ A28.out).mono ?_); rintro e w' ⟨rfl, ⟨nd, rfl⟩⟩; refine ⟨_, rfl, ?_⟩) | (go_at_call 10; (with_reducible refine (impl_Dir.calls k3 ((((⟨#[47]⟩ : ByteArray) ++ x5_3) ++ (⟨#[47]⟩ : ByteArray)) ++ a1) t109 _ A33.out).mono ?_); rintro e w' ⟨rfl, ⟨nd, rfl⟩⟩) | (go_at_call 10; (with_reducible refine (impl_Dir.calls k3 ((⟨#[47]⟩ : ByteArray) ++ a1) t110 _ A36.out).mono ?_); rintro e w' ⟨rfl, ⟨nd, rfl⟩⟩))
                                    go_ret
                                    exact ⟨by first | rfl | (simp; done) | (simp [*]; done), by repeat (first | exact Drawn0.refl _ | apply Drawn0.step)⟩
                                  · rw [if_neg c35] at H
                                    exact absurd H (by simp)
                                · rw [if_neg c34] at H
                                  have c34b0 : (t109.toList == ((⟨#[47]⟩ : ByteArray) ++ x5_3).toList) = false := beq_eq_false_iff_ne.mpr c34
                                  have c34b1 : (t109.toList != ((⟨#[47]⟩ : ByteArray) ++ x5_3).toList) = true := bne_iff_ne.mpr c34
                                  obtain rfl := Option.some.inj H
                                  go_wp2_with (first | ((with_reducible refine gate_callee (f := 10) rfl ?_); refine goesL_ (some 67) rfl rfl Try.func10 (by kernel_rfl) rfl #[.string ((x5_3 ++ (⟨#[47]⟩ : ByteArray)) ++ a1)] rfl (by (try simp only [List.map_toArray, List.map_cons, List.map_nil]); first | done | rfl | (simp only [List.length_drop, List.length_take]; rfl)) ?_; (with_reducible refine (impl_Dir.calls k3 ((x5_3 ++ (⟨#[47]⟩ : ByteArray)) ++ a1) t108 _ A28.out).mono ?_); rintro e w' ⟨rfl, ⟨nd, rfl⟩⟩; refine ⟨_, rfl, ?_⟩) | (go_at_call 10; (with_reducible refine (impl_Dir.calls k3 ((((⟨#[47]⟩ : ByteArray) ++ x5_3) ++ (⟨#[47]⟩ : ByteArray)) ++ a1) t109 _ A33.out).mono ?_); rintro e w' ⟨rfl, ⟨nd, rfl⟩⟩))
                                  go_ret
                                  exact ⟨by first | rfl | (simp; done) | (simp [*]; done), by repeat (first | exact Drawn0.refl _ | apply Drawn0.step)⟩
                              · rw [if_neg c32] at H
                                exact absurd H (by simp)
                            · rw [if_neg c31] at H
                              exact absurd H (by simp)
                          · rw [if_neg c30] at H
                            exact absurd H (by simp)
                        · rw [if_neg c29] at H
                          have c29b0 : (t108.toList == x5_3.toList) = false := beq_eq_false_iff_ne.mpr c29
                          have c29b1 : (t108.toList != x5_3.toList) = true := bne_iff_ne.mpr c29
                          obtain rfl := Option.some.inj H
                          go_wp2_with (first | ((with_reducible refine gate_callee (f := 10) rfl ?_); refine goesL_ (some 67) rfl rfl Try.func10 (by kernel_rfl) rfl #[.string ((x5_3 ++ (⟨#[47]⟩ : ByteArray)) ++ a1)] rfl (by (try simp only [List.map_toArray, List.map_cons, List.map_nil]); first | done | rfl | (simp only [List.length_drop, List.length_take]; rfl)) ?_; (with_reducible refine (impl_Dir.calls k3 ((x5_3 ++ (⟨#[47]⟩ : ByteArray)) ++ a1) t108 _ A28.out).mono ?_); rintro e w' ⟨rfl, ⟨nd, rfl⟩⟩; refine ⟨_, rfl, ?_⟩))
                          go_ret
                          exact ⟨by first | rfl | (simp; done) | (simp [*]; done), by repeat (first | exact Drawn0.refl _ | apply Drawn0.step)⟩
                      · rw [if_neg c27] at H
                        exact absurd H (by simp)
                    · rw [if_neg c26] at H
                      exact absurd H (by simp)

end Go.Proofs.Ytelijbnnhgmklaa.PFnDirJoined
