/- Printed by a program of this session (a printer turned to take contracts that were proved by hand): functions with the answers of the Go functions, and proofs that the code comes to these answers; no condition beyond what each theorem names. -/
import Derived.Test.YtelijbnnhgmklaaPFnFieldsJoinedx0
import Derived.Test.YtelijbnnhgmklaaPFnFieldsJoinedx1
namespace Go.Proofs.Ytelijbnnhgmklaa.PFnFieldsJoined
open Go.RowKit Go.Proofs.YtelijbnnhgmklaaW.PrintWords Go.Proofs.YtelijbnnhgmklaaW.PrintLast Go.Proofs.YtelijbnnhgmklaaW.PrintMore
attribute [local go_sem] max2_int min2_int max_two min_two max_three min_three max_four min_four   -- for this text's walks alone
set_option linter.unusedVariables false
set_option linter.unusedSimpArgs false

/-! ### laws_FnFieldsJoined: function 9 -/
mutual
def laws_FnFieldsJoined.j0 : Nat → List ByteArray → List Int → Bool → Option (Bool)
  | 0, _, _, _ => none
  | k + 1, x0, x1, x16 => if x16 = true then (some true) else (if (x0.length : Int) > 50 then (laws_FnFieldsJoined.j1 k x0 x1 true) else (laws_FnFieldsJoined.j1 k x0 x1 ((x1.length : Int) != (wrap64 ((x0.length : Int) + 1)))))
def laws_FnFieldsJoined.j1 : Nat → List ByteArray → List Int → Bool → Option (Bool)
  | 0, _, _, _ => none
  | k + 1, x0, x1, x27 => if x27 = true then (some true) else (laws_FnFieldsJoined.l0 k x0 (⟨#[]⟩ : ByteArray) x1 (x1.length : Int) 0)
def laws_FnFieldsJoined.l0 : Nat → List ByteArray → ByteArray → List Int → Int → Int → Option (Bool)
  | 0, _, _, _, _, _ => none
  | k + 1, x0, x5, x28, x29, x30 => if x30 < x29 then (if 0 ≤ x30 then (if x30 < (x28.length : Int) then (if x30 > 0 then (laws_FnFieldsJoined.j3 k x0 x5 x30 (wrap64 (Int.tmod (rd x28 x30) 4)) x28 x29 x30 (decide (x30 < (x0.length : Int)))) else (laws_FnFieldsJoined.j3 k x0 x5 x30 (wrap64 (Int.tmod (rd x28 x30) 4)) x28 x29 x30 false)) else (none)) else (none)) else ((impl_FieldsSlash.f x5).bind fun t108 => ((laws_sameTexts.f k t108 x0).bind fun t111 => (some t111)))
def laws_FnFieldsJoined.j3 : Nat → List ByteArray → ByteArray → Int → Int → List Int → Int → Int → Bool → Option (Bool)
  | 0, _, _, _, _, _, _, _, _ => none
  | k + 1, x0, x5, x6, x8, x28, x29, x30, x45 => if x45 = true then (laws_FnFieldsJoined.j4 k x0 x5 x6 (wrap64 (x8 + 1)) x28 x29 x30) else (laws_FnFieldsJoined.j4 k x0 x5 x6 x8 x28 x29 x30)
def laws_FnFieldsJoined.j4 : Nat → List ByteArray → ByteArray → Int → Int → List Int → Int → Int → Option (Bool)
  | 0, _, _, _, _, _, _, _ => none
  | k + 1, x0, x5, x6, x8, x28, x29, x30 => laws_FnFieldsJoined.l1 k x0 x5 x6 x28 x29 x30 x8 0
def laws_FnFieldsJoined.l1 : Nat → List ByteArray → ByteArray → Int → List Int → Int → Int → Int → Int → Option (Bool)
  | 0, _, _, _, _, _, _, _, _ => none
  | k + 1, x0, x5, x6, x28, x29, x30, x48, x49 => if x49 < x48 then (if x5.size + 1 ≤ 9223372036854775807 then (laws_FnFieldsJoined.l1 k x0 (x5 ++ (⟨#[47]⟩ : ByteArray)) x6 x28 x29 x30 x48 (wrap64 (x49 + 1))) else (none)) else (if x6 < (x0.length : Int) then (if 0 ≤ x6 then (if (rdOf ByteArray.empty x0 x6).toList = ([] : List UInt8) then (some true) else ((laws_has.f k (rdOf ByteArray.empty x0 x6) (⟨#[47]⟩ : ByteArray)).bind fun t115 => (if t115 = true then (some true) else (if ((rdOf ByteArray.empty x0 x6).size : Int) > 1000 then (some true) else (if x5.size + (rdOf ByteArray.empty x0 x6).size ≤ 9223372036854775807 then (laws_FnFieldsJoined.l0 k x0 (x5 ++ (rdOf ByteArray.empty x0 x6)) x28 x29 (wrap64 (x30 + 1))) else (none)))))) else (none)) else (laws_FnFieldsJoined.l0 k x0 x5 x28 x29 (wrap64 (x30 + 1))))
end
def laws_FnFieldsJoined.f (k : Nat) (l0 : List ByteArray) (l1 : List Int) : Option (Bool) := (laws_zzFits3.f k l0).bind fun t107 => (if t107 = true then (laws_FnFieldsJoined.j0 k l0 l1 (decide ((l1.length : Int) > 2147483647))) else (laws_FnFieldsJoined.j0 k l0 l1 true))
theorem laws_FnFieldsJoined.mono_l : ∀ k, (∀ y0 y1 y2, LeO (laws_FnFieldsJoined.j0 k y0 y1 y2) (laws_FnFieldsJoined.j0 (k + 1) y0 y1 y2)) ∧ (∀ y0 y1 y2, LeO (laws_FnFieldsJoined.j1 k y0 y1 y2) (laws_FnFieldsJoined.j1 (k + 1) y0 y1 y2)) ∧ (∀ y0 y1 y2 y3 y4, LeO (laws_FnFieldsJoined.l0 k y0 y1 y2 y3 y4) (laws_FnFieldsJoined.l0 (k + 1) y0 y1 y2 y3 y4)) ∧ (∀ y0 y1 y2 y3 y4 y5 y6 y7, LeO (laws_FnFieldsJoined.j3 k y0 y1 y2 y3 y4 y5 y6 y7) (laws_FnFieldsJoined.j3 (k + 1) y0 y1 y2 y3 y4 y5 y6 y7)) ∧ (∀ y0 y1 y2 y3 y4 y5 y6, LeO (laws_FnFieldsJoined.j4 k y0 y1 y2 y3 y4 y5 y6) (laws_FnFieldsJoined.j4 (k + 1) y0 y1 y2 y3 y4 y5 y6)) ∧ (∀ y0 y1 y2 y3 y4 y5 y6 y7, LeO (laws_FnFieldsJoined.l1 k y0 y1 y2 y3 y4 y5 y6 y7) (laws_FnFieldsJoined.l1 (k + 1) y0 y1 y2 y3 y4 y5 y6 y7))
  | 0 => ⟨fun _ _ _ r h => by simp [laws_FnFieldsJoined.j0] at h, fun _ _ _ r h => by simp [laws_FnFieldsJoined.j1] at h, fun _ _ _ _ _ r h => by simp [laws_FnFieldsJoined.l0] at h, fun _ _ _ _ _ _ _ _ r h => by simp [laws_FnFieldsJoined.j3] at h, fun _ _ _ _ _ _ _ r h => by simp [laws_FnFieldsJoined.j4] at h, fun _ _ _ _ _ _ _ _ r h => by simp [laws_FnFieldsJoined.l1] at h⟩
  | k + 1 => by
    obtain ⟨ih0, ih1, ih2, ih3, ih4, ih5⟩ := laws_FnFieldsJoined.mono_l k
    refine ⟨?_, ?_, ?_, ?_, ?_, ?_⟩
    · intro y0 y1 y2
      unfold laws_FnFieldsJoined.j0
      repeat' first
      | (with_reducible exact ih0 _ _ _)
      | (with_reducible exact ih1 _ _ _)
      | (with_reducible exact ih2 _ _ _ _ _)
      | (with_reducible exact ih3 _ _ _ _ _ _ _ _)
      | (with_reducible exact ih4 _ _ _ _ _ _ _)
      | (with_reducible exact ih5 _ _ _ _ _ _ _ _)
      | (with_reducible exact laws_has.mono _ _ _)
      | (with_reducible exact laws_sameTexts.mono _ _ _)
      | (with_reducible exact laws_zzFits3.mono _ _)
      | (with_reducible exact LeO.refl _)
      | (with_reducible exact LeO.none _)
      | (with_reducible refine LeO.ite ?_ ?_)
      | (with_reducible refine LeO.bind ?_ (fun _ => ?_))
      | exact ih0 _ _ _
      | exact ih1 _ _ _
      | exact ih2 _ _ _ _ _
      | exact ih3 _ _ _ _ _ _ _ _
      | exact ih4 _ _ _ _ _ _ _
      | exact ih5 _ _ _ _ _ _ _ _
      | exact laws_has.mono _ _ _
      | exact laws_sameTexts.mono _ _ _
      | exact laws_zzFits3.mono _ _
      | exact LeO.none _
      | refine LeO.ite ?_ ?_
      | refine LeO.bind ?_ (fun _ => ?_)
    · intro y0 y1 y2
      unfold laws_FnFieldsJoined.j1
      repeat' first
      | (with_reducible exact ih0 _ _ _)
      | (with_reducible exact ih1 _ _ _)
      | (with_reducible exact ih2 _ _ _ _ _)
      | (with_reducible exact ih3 _ _ _ _ _ _ _ _)
      | (with_reducible exact ih4 _ _ _ _ _ _ _)
      | (with_reducible exact ih5 _ _ _ _ _ _ _ _)
      | (with_reducible exact laws_has.mono _ _ _)
      | (with_reducible exact laws_sameTexts.mono _ _ _)
      | (with_reducible exact laws_zzFits3.mono _ _)
      | (with_reducible exact LeO.refl _)
      | (with_reducible exact LeO.none _)
      | (with_reducible refine LeO.ite ?_ ?_)
      | (with_reducible refine LeO.bind ?_ (fun _ => ?_))
      | exact ih0 _ _ _
      | exact ih1 _ _ _
      | exact ih2 _ _ _ _ _
      | exact ih3 _ _ _ _ _ _ _ _
      | exact ih4 _ _ _ _ _ _ _
      | exact ih5 _ _ _ _ _ _ _ _
      | exact laws_has.mono _ _ _
      | exact laws_sameTexts.mono _ _ _
      | exact laws_zzFits3.mono _ _
      | exact LeO.none _
      | refine LeO.ite ?_ ?_
      | refine LeO.bind ?_ (fun _ => ?_)
    · intro y0 y1 y2 y3 y4
      unfold laws_FnFieldsJoined.l0
      repeat' first
      | (with_reducible exact ih0 _ _ _)
      | (with_reducible exact ih1 _ _ _)
      | (with_reducible exact ih2 _ _ _ _ _)
      | (with_reducible exact ih3 _ _ _ _ _ _ _ _)
      | (with_reducible exact ih4 _ _ _ _ _ _ _)
      | (with_reducible exact ih5 _ _ _ _ _ _ _ _)
      | (with_reducible exact laws_has.mono _ _ _)
      | (with_reducible exact laws_sameTexts.mono _ _ _)
      | (with_reducible exact laws_zzFits3.mono _ _)
      | (with_reducible exact LeO.refl _)
      | (with_reducible exact LeO.none _)
      | (with_reducible refine LeO.ite ?_ ?_)
      | (with_reducible refine LeO.bind ?_ (fun _ => ?_))
      | exact ih0 _ _ _
      | exact ih1 _ _ _
      | exact ih2 _ _ _ _ _
      | exact ih3 _ _ _ _ _ _ _ _
      | exact ih4 _ _ _ _ _ _ _
      | exact ih5 _ _ _ _ _ _ _ _
      | exact laws_has.mono _ _ _
      | exact laws_sameTexts.mono _ _ _
      | exact laws_zzFits3.mono _ _
      | exact LeO.none _
      | refine LeO.ite ?_ ?_
      | refine LeO.bind ?_ (fun _ => ?_)
    · intro y0 y1 y2 y3 y4 y5 y6 y7
      unfold laws_FnFieldsJoined.j3
      repeat' first
      | (with_reducible exact ih0 _ _ _)
      | (with_reducible exact ih1 _ _ _)
      | (with_reducible exact ih2 _ _ _ _ _)
      | (with_reducible exact ih3 _ _ _ _ _ _ _ _)
      | (with_reducible exact ih4 _ _ _ _ _ _ _)
      | (with_reducible exact ih5 _ _ _ _ _ _ _ _)
      | (with_reducible exact laws_has.mono _ _ _)
      | (with_reducible exact laws_sameTexts.mono _ _ _)
      | (with_reducible exact laws_zzFits3.mono _ _)
      | (with_reducible exact LeO.refl _)
      | (with_reducible exact LeO.none _)
      | (with_reducible refine LeO.ite ?_ ?_)
      | (with_reducible refine LeO.bind ?_ (fun _ => ?_))
      | exact ih0 _ _ _
      | exact ih1 _ _ _
      | exact ih2 _ _ _ _ _
      | exact ih3 _ _ _ _ _ _ _ _
      | exact ih4 _ _ _ _ _ _ _
      | exact ih5 _ _ _ _ _ _ _ _
      | exact laws_has.mono _ _ _
      | exact laws_sameTexts.mono _ _ _
      | exact laws_zzFits3.mono _ _
      | exact LeO.none _
      | refine LeO.ite ?_ ?_
      | refine LeO.bind ?_ (fun _ => ?_)
    · intro y0 y1 y2 y3 y4 y5 y6
      unfold laws_FnFieldsJoined.j4
      repeat' first
      | (with_reducible exact ih0 _ _ _)
      | (with_reducible exact ih1 _ _ _)
      | (with_reducible exact ih2 _ _ _ _ _)
      | (with_reducible exact ih3 _ _ _ _ _ _ _ _)
      | (with_reducible exact ih4 _ _ _ _ _ _ _)
      | (with_reducible exact ih5 _ _ _ _ _ _ _ _)
      | (with_reducible exact laws_has.mono _ _ _)
      | (with_reducible exact laws_sameTexts.mono _ _ _)
      | (with_reducible exact laws_zzFits3.mono _ _)
      | (with_reducible exact LeO.refl _)
      | (with_reducible exact LeO.none _)
      | (with_reducible refine LeO.ite ?_ ?_)
      | (with_reducible refine LeO.bind ?_ (fun _ => ?_))
      | exact ih0 _ _ _
      | exact ih1 _ _ _
      | exact ih2 _ _ _ _ _
      | exact ih3 _ _ _ _ _ _ _ _
      | exact ih4 _ _ _ _ _ _ _
      | exact ih5 _ _ _ _ _ _ _ _
      | exact laws_has.mono _ _ _
      | exact laws_sameTexts.mono _ _ _
      | exact laws_zzFits3.mono _ _
      | exact LeO.none _
      | refine LeO.ite ?_ ?_
      | refine LeO.bind ?_ (fun _ => ?_)
    · intro y0 y1 y2 y3 y4 y5 y6 y7
      unfold laws_FnFieldsJoined.l1
      repeat' first
      | (with_reducible exact ih0 _ _ _)
      | (with_reducible exact ih1 _ _ _)
      | (with_reducible exact ih2 _ _ _ _ _)
      | (with_reducible exact ih3 _ _ _ _ _ _ _ _)
      | (with_reducible exact ih4 _ _ _ _ _ _ _)
      | (with_reducible exact ih5 _ _ _ _ _ _ _ _)
      | (with_reducible exact laws_has.mono _ _ _)
      | (with_reducible exact laws_sameTexts.mono _ _ _)
      | (with_reducible exact laws_zzFits3.mono _ _)
      | (with_reducible exact LeO.refl _)
      | (with_reducible exact LeO.none _)
      | (with_reducible refine LeO.ite ?_ ?_)
      | (with_reducible refine LeO.bind ?_ (fun _ => ?_))
      | exact ih0 _ _ _
      | exact ih1 _ _ _
      | exact ih2 _ _ _ _ _
      | exact ih3 _ _ _ _ _ _ _ _
      | exact ih4 _ _ _ _ _ _ _
      | exact ih5 _ _ _ _ _ _ _ _
      | exact laws_has.mono _ _ _
      | exact laws_sameTexts.mono _ _ _
      | exact laws_zzFits3.mono _ _
      | exact LeO.none _
      | refine LeO.ite ?_ ?_
      | refine LeO.bind ?_ (fun _ => ?_)
theorem laws_FnFieldsJoined.mono : ∀ a0 a1 k, LeO (laws_FnFieldsJoined.f k a0 a1) (laws_FnFieldsJoined.f (k + 1) a0 a1) := by
  intro a0 a1 k
  obtain ⟨ih0, ih1, ih2, ih3, ih4, ih5⟩ := laws_FnFieldsJoined.mono_l k
  unfold laws_FnFieldsJoined.f
  repeat' first
      | (with_reducible exact ih0 _ _ _)
      | (with_reducible exact ih1 _ _ _)
      | (with_reducible exact ih2 _ _ _ _ _)
      | (with_reducible exact ih3 _ _ _ _ _ _ _ _)
      | (with_reducible exact ih4 _ _ _ _ _ _ _)
      | (with_reducible exact ih5 _ _ _ _ _ _ _ _)
      | (with_reducible exact laws_has.mono _ _ _)
      | (with_reducible exact laws_sameTexts.mono _ _ _)
      | (with_reducible exact laws_zzFits3.mono _ _)
      | (with_reducible exact LeO.refl _)
      | (with_reducible exact LeO.none _)
      | (with_reducible refine LeO.ite ?_ ?_)
      | (with_reducible refine LeO.bind ?_ (fun _ => ?_))
      | exact ih0 _ _ _
      | exact ih1 _ _ _
      | exact ih2 _ _ _ _ _
      | exact ih3 _ _ _ _ _ _ _ _
      | exact ih4 _ _ _ _ _ _ _
      | exact ih5 _ _ _ _ _ _ _ _
      | exact laws_has.mono _ _ _
      | exact laws_sameTexts.mono _ _ _
      | exact laws_zzFits3.mono _ _
      | exact LeO.none _
      | refine LeO.ite ?_ ?_
      | refine LeO.bind ?_ (fun _ => ?_)
set_option maxHeartbeats 8000000 in
set_option maxRecDepth 100000 in
theorem laws_FnFieldsJoined.calls (k : Nat) (A0 : Option Addr) (c0 : Nat) (l0 : List ByteArray) (A1 : Option Addr) (c1 : Nat) (l1 : List Int) (r : Bool) (w : World) (hr0 : Kd.C Kd.string w A0 l0.length l0) (hc0 : l0.length ≤ c0) (hr1 : Kd.C (Kd.int .u8) w A1 l1.length l1) (hc1 : l1.length ≤ c1) (h : laws_FnFieldsJoined.f k l0 l1 = some r) :
    Calls Try.prog 9 #[.slice A0 l0.length c0, .slice A1 l1.length c1] w fun e w' => e = .returned (.bool r) ∧ Below w.heap.size w w' := by
  have HR0 := Aside0.mk hr0
  have HC0 := Aside0.mk hc0
  clear hr0 hc0
  have HR1 := Aside0.mk hr1
  have HC1 := Aside0.mk hc1
  clear hr1 hc1
  have HB := Aside0.mk (Below.refl w.heap.size w)
  have H : ((laws_zzFits3.f k l0).bind fun t107 => (if t107 = true then (laws_FnFieldsJoined.j0 k l0 l1 (decide ((l1.length : Int) > 2147483647))) else (laws_FnFieldsJoined.j0 k l0 l1 true))) = some r := h
  clear h
  have HC3 := Aside0.mk H
  clear H
  go_enter Try.func9, Try.ntmps9
  go_upto_region 1 with (fail)
  go_cut [16] (fun v16 wc => ∃ (kq : Nat) (x16_2 : Bool), v16 = .bool x16_2 ∧ Aside0 (laws_FnFieldsJoined.j0 kq l0 l1 x16_2 = some r) ∧ Aside0 (kq ≤ k) ∧ Aside0 (Below w.heap.size w wc))
  case first =>
    have H := HC3.out
    clear HC3
    replace H := Option.bind_eq_some_iff.mp H
    obtain ⟨t107, A40, H⟩ := H
    replace H : (if t107 = true then (laws_FnFieldsJoined.j0 k l0 l1 (decide ((l1.length : Int) > 2147483647))) else (laws_FnFieldsJoined.j0 k l0 l1 true)) = some r := H
    have A4 := Aside0.mk A40
    clear A40
    by_cases c5 : t107 = true
    · subst c5
      have H1 : (laws_FnFieldsJoined.j0 k l0 l1 (decide ((l1.length : Int) > 2147483647))) = some r := by rw [if_pos rfl] at H; exact H
      clear H
      have H := H1
      clear H1
      have H' := Aside0.mk H
      clear H
      go_wp2_with (first | ((with_reducible refine gate_callee (f := 12) rfl ?_); refine goesL_ (some 10) rfl rfl Try.func12 (by kernel_rfl) rfl #[.slice A0 l0.length c0] rfl (by (try simp only [List.map_toArray, List.map_cons, List.map_nil]); first | done | rfl | (simp only [List.length_drop, List.length_take]; rfl)) ?_; (with_reducible refine (laws_zzFits3.calls k _ _ l0 true _ ?side1 ?side2 A4.out).mono ?_); (case side1 => repeat (first | exact (Kd.C_below HR0.out HB.out) | (with_reducible refine Kd.C_alloc ?_ _) | (with_reducible refine Kd.C_drewN ?_ _) | (with_reducible refine Kd.C_drew ?_))); (case side2 => exact HC0.out); rintro e w' ⟨rfl, ⟨nd, rfl⟩⟩; refine ⟨_, rfl, ?_⟩))
      go_meet
      case rel => exact ⟨_, (decide ((l1.length : Int) > 2147483647)), (by first | rfl | (simp; done) | (simp [*]; done)), H', ⟨by first | omega | exact Nat.le_refl _⟩, ⟨by repeat (first | (with_reducible first | exact HB.out | apply below_alloc | apply pw_below_drewN | apply below_drew1) | exact HB.out)⟩⟩
    · replace c5 := Bool.eq_false_iff.mpr c5
      subst c5
      have H1 : (laws_FnFieldsJoined.j0 k l0 l1 true) = some r := by rw [if_neg (show ¬ (false = true) by decide)] at H; exact H
      clear H
      have H := H1
      clear H1
      have H' := Aside0.mk H
      clear H
      go_wp2_with (first | ((with_reducible refine gate_callee (f := 12) rfl ?_); refine goesL_ (some 10) rfl rfl Try.func12 (by kernel_rfl) rfl #[.slice A0 l0.length c0] rfl (by (try simp only [List.map_toArray, List.map_cons, List.map_nil]); first | done | rfl | (simp only [List.length_drop, List.length_take]; rfl)) ?_; (with_reducible refine (laws_zzFits3.calls k _ _ l0 false _ ?side1 ?side2 A4.out).mono ?_); (case side1 => repeat (first | exact (Kd.C_below HR0.out HB.out) | (with_reducible refine Kd.C_alloc ?_ _) | (with_reducible refine Kd.C_drewN ?_ _) | (with_reducible refine Kd.C_drew ?_))); (case side2 => exact HC0.out); rintro e w' ⟨rfl, ⟨nd, rfl⟩⟩; refine ⟨_, rfl, ?_⟩))
      go_meet
      case rel => exact ⟨_, (true), (by first | rfl | (simp; done) | (simp [*]; done)), H', ⟨by first | omega | exact Nat.le_refl _⟩, ⟨by repeat (first | (with_reducible first | exact HB.out | apply below_alloc | apply pw_below_drewN | apply below_drew1) | exact HB.out)⟩⟩
  case rest =>
    clear HC3
    try clear c1
    try clear p2
    try clear c5
    obtain ⟨kq, x16_2, rfl, HA, HJ2, HB⟩ := hcut
    cases kq with
    | zero => exact absurd HA.out (by simp [laws_FnFieldsJoined.j0])
    | succ kj2 =>
      have H := HA.out
      clear HA
      simp only [laws_FnFieldsJoined.j0] at H
      by_cases c6 : x16_2 = true
      · subst c6
        have H1 : (some true) = some r := by rw [if_pos rfl] at H; exact H
        clear H
        have H := H1
        clear H1
        obtain rfl := Option.some.inj H
        go_wp2
        go_ret
        exact ⟨by first | rfl | (simp [errW_none, errW_some] <;> rfl) | (simp [*, errW_none, errW_some] <;> rfl), by repeat (first | (with_reducible first | exact HB.out | apply below_alloc | apply pw_below_drewN | apply below_drew1) | exact HB.out)⟩
      · replace c6 := Bool.eq_false_iff.mpr c6
        subst c6
        have H1 : (if (l0.length : Int) > 50 then (laws_FnFieldsJoined.j1 kj2 l0 l1 true) else (laws_FnFieldsJoined.j1 kj2 l0 l1 ((l1.length : Int) != (wrap64 ((l0.length : Int) + 1))))) = some r := by rw [if_neg (show ¬ (false = true) by decide)] at H; exact H
        clear H
        have H := H1
        clear H1
        have HC7 := Aside0.mk H
        clear H
        go_upto_region 3 with (fail)
        go_cut [27] (fun v27 wc => ∃ (kq : Nat) (x27_6 : Bool), v27 = .bool x27_6 ∧ Aside0 (laws_FnFieldsJoined.j1 kq l0 l1 x27_6 = some r) ∧ Aside0 (kq ≤ kj2) ∧ Aside0 (Below w.heap.size w wc))
        case first =>
          have H := HC7.out
          clear HC7
          by_cases c8 : (l0.length : Int) > 50
          · rw [if_pos c8] at H
            have c8b0 : decide (50 < (l0.length : Int)) = true := decide_eq_true c8
            have c8b1 : decide (50 < l0.length) = true := decide_eq_true (by omega)
            clear c8
            (first | rw [c8b0] | (simp only [i64_w, i32_w]; rw [c8b0]) | skip)
            have H' := Aside0.mk H
            clear H
            go_wp2
            go_meet
            case rel => exact ⟨_, (true), (by first | rfl | (simp; done) | (simp [*]; done)), H', ⟨by have := HJ2.out; first | omega | exact Nat.le_refl _⟩, ⟨by repeat (first | (with_reducible first | exact HB.out | apply below_alloc | apply pw_below_drewN | apply below_drew1) | exact HB.out)⟩⟩
          · rw [if_neg c8] at H
            have c8b0 : decide (50 < (l0.length : Int)) = false := decide_eq_false c8
            have c8b1 : decide (50 < l0.length) = false := decide_eq_false (by omega)
            clear c8
            (first | rw [c8b0] | (simp only [i64_w, i32_w]; rw [c8b0]) | skip)
            have H' := Aside0.mk H
            clear H
            go_wp2
            go_meet
            case rel => exact ⟨_, (((l1.length : Int) != (wrap64 ((l0.length : Int) + 1)))), (by first | rfl | (simp; done) | (simp [*]; done)), H', ⟨by have := HJ2.out; first | omega | exact Nat.le_refl _⟩, ⟨by repeat (first | (with_reducible first | exact HB.out | apply below_alloc | apply pw_below_drewN | apply below_drew1) | exact HB.out)⟩⟩
        case rest =>
          clear HC7
          try clear c1
          try clear p2
          try clear c5
          try clear c6
          try clear p6
          try clear c8
          try clear c8b0
          try clear c8b1
          try clear p2
          obtain ⟨kq, x27_6, rfl, HA, HJ6, HB⟩ := hcut
          cases kq with
          | zero => exact absurd HA.out (by simp [laws_FnFieldsJoined.j1])
          | succ kj6 =>
            have H := HA.out
            clear HA
            simp only [laws_FnFieldsJoined.j1] at H
            by_cases c9 : x27_6 = true
            · subst c9
              have H1 : (some true) = some r := by rw [if_pos rfl] at H; exact H
              clear H
              have H := H1
              clear H1
              obtain rfl := Option.some.inj H
              go_wp2
              go_ret
              exact ⟨by first | rfl | (simp [errW_none, errW_some] <;> rfl) | (simp [*, errW_none, errW_some] <;> rfl), by repeat (first | (with_reducible first | exact HB.out | apply below_alloc | apply pw_below_drewN | apply below_drew1) | exact HB.out)⟩
            · replace c9 := Bool.eq_false_iff.mpr c9
              subst c9
              have H1 : (laws_FnFieldsJoined.l0 kj6 l0 (⟨#[]⟩ : ByteArray) l1 (l1.length : Int) 0) = some r := by rw [if_neg (show ¬ (false = true) by decide)] at H; exact H
              clear H
              have H := H1
              clear H1
              have H' := Aside0.mk H
              clear H
              go_wp2
              go_loopg [5, 30] kj6 (fun kq v5 v30 w' => ∃ (x5_3 : ByteArray) (x30_3 : Int), v5 = .string x5_3 ∧ v30 = .int .i64 x30_3 ∧ Aside0 (laws_FnFieldsJoined.l0 kq l0 x5_3 l1 (l1.length : Int) x30_3 = some r) ∧ Aside0 (kq ≤ kj6) ∧ Aside0 (Below w.heap.size w w'))
              case atStart => exact ⟨((⟨#[]⟩ : ByteArray)), (0), (by first | rfl | (simp; done) | (simp [*]; done)), (by first | rfl | (simp; done) | (simp [*]; done)), H', ⟨Nat.le_refl _⟩, ⟨by repeat (first | (with_reducible first | exact HB.out | apply below_alloc | apply pw_below_drewN | apply below_drew1) | exact HB.out)⟩⟩
              case round =>
                clear H'
                try clear c1
                try clear p2
                try clear c5
                try clear c6
                try clear p6
                try clear c8
                try clear c8b0
                try clear c8b1
                try clear c9
                try clear p2
                try clear p6
                obtain ⟨x5_3, x30_3, rfl, rfl, HA, HK3, HB⟩ := hrel
                cases gk with
                | zero => exact absurd HA.out (by simp [laws_FnFieldsJoined.l0])
                | succ k3 =>
                  have H := HA.out
                  clear HA
                  simp only [laws_FnFieldsJoined.l0] at H
                  by_cases c10 : x30_3 < (l1.length : Int)
                  · rw [if_pos c10] at H
                    have c10b0 : decide (x30_3 < (l1.length : Int)) = true := decide_eq_true c10
                    clear c10
                    by_cases c11 : 0 ≤ x30_3
                    · rw [if_pos c11] at H
                      have c11b0 : decide (0 ≤ x30_3) = true := decide_eq_true c11
                      clear c11
                      by_cases c12 : x30_3 < (l1.length : Int)
                      · rw [if_pos c12] at H
                        have c12b0 : decide (x30_3 < (l1.length : Int)) = true := decide_eq_true c12
                        clear c12
                        have HC13 := Aside0.mk H
                        clear H
                        have p112 : 0 ≤ (x30_3 : Int) := of_decide_eq_true (by first | (with_reducible assumption) | assumption)
                        have q112 : x30_3 < (l1.length : Int) := of_decide_eq_true (by first | (with_reducible assumption) | assumption)
                        obtain ⟨ad112, e112, hx112_0⟩ := Kd.at_int HR1.out x30_3 p112 q112
                        cases e112
                        replace hx112_0 := (HB.out.cell (World.block_lt_of_cell? w _ hx112_0)).trans hx112_0
                        replace p112 := eq_true p112
                        replace q112 := eq_true q112
                        go_upto_region 10 with (fail)
                        go_cut [45] (fun v45 wc => ∃ (kq : Nat) (x45_12 : Bool), v45 = .bool x45_12 ∧ Aside0 (laws_FnFieldsJoined.j3 kq l0 x5_3 x30_3 (wrap64 (Int.tmod (rd l1 x30_3) 4)) l1 (l1.length : Int) x30_3 x45_12 = some r) ∧ Aside0 (kq ≤ k3) ∧ Aside0 (Below w.heap.size w wc))
                        case first =>
                          have H := HC13.out
                          clear HC13
                          by_cases c14 : x30_3 > 0
                          · rw [if_pos c14] at H
                            have c14b0 : decide (0 < x30_3) = true := decide_eq_true c14
                            clear c14
                            (first | rw [c14b0] | (simp only [i64_w, i32_w]; rw [c14b0]) | skip)
                            have H' := Aside0.mk H
                            clear H
                            go_wp2
                            go_meet
                            case rel => exact ⟨_, (decide (x30_3 < (l0.length : Int))), (by first | rfl | (simp; done) | (simp [*]; done)), H', ⟨by have := HJ2.out; have := HJ6.out; have := HK3.out; first | omega | exact Nat.le_refl _⟩, ⟨by repeat (first | (with_reducible first | exact HB.out | apply below_alloc | apply pw_below_drewN | apply below_drew1) | exact HB.out)⟩⟩
                          · rw [if_neg c14] at H
                            have c14b0 : decide (0 < x30_3) = false := decide_eq_false c14
                            clear c14
                            (first | rw [c14b0] | (simp only [i64_w, i32_w]; rw [c14b0]) | skip)
                            have H' := Aside0.mk H
                            clear H
                            go_wp2
                            go_meet
                            case rel => exact ⟨_, (false), (by first | rfl | (simp; done) | (simp [*]; done)), H', ⟨by have := HJ2.out; have := HJ6.out; have := HK3.out; first | omega | exact Nat.le_refl _⟩, ⟨by repeat (first | (with_reducible first | exact HB.out | apply below_alloc | apply pw_below_drewN | apply below_drew1) | exact HB.out)⟩⟩
                        case rest =>
                          clear HC13
                          try clear c1
                          try clear p1
                          try clear q1
                          try clear hx1
                          try clear p2
                          try clear c5
                          try clear c6
                          try clear p6
                          try clear c8
                          try clear c8b0
                          try clear c8b1
                          try clear c9
                          try clear c10
                          try clear c10b0
                          try clear c11
                          try clear c11b0
                          try clear p11
                          try clear q11
                          try clear hx11
                          try clear c12
                          try clear c12b0
                          try clear c14
                          try clear c14b0
                          try clear hx112_0
                          try clear p112
                          try clear p2
                          try clear p6
                          try clear q112
                          obtain ⟨kq, x45_12, rfl, HA, HJ12, HB⟩ := hcut
                          cases kq with
                          | zero => exact absurd HA.out (by simp [laws_FnFieldsJoined.j3])
                          | succ kj12 =>
                            have H := HA.out
                            clear HA
                            simp only [laws_FnFieldsJoined.j3] at H
                            have HC15 := Aside0.mk H
                            clear H
                            go_upto_if 45 with (fail)
                            go_cut [8] (fun v8 wc => ∃ (kq : Nat) (x8_14 : Int), v8 = .int .i64 x8_14 ∧ Aside0 (laws_FnFieldsJoined.j4 kq l0 x5_3 x30_3 x8_14 l1 (l1.length : Int) x30_3 = some r) ∧ Aside0 (kq ≤ kj12) ∧ Aside0 (Below w.heap.size w wc))
                            case first =>
                              have H := HC15.out
                              clear HC15
                              by_cases c16 : x45_12 = true
                              · subst c16
                                have H1 : (laws_FnFieldsJoined.j4 kj12 l0 x5_3 x30_3 (wrap64 ((wrap64 (Int.tmod (rd l1 x30_3) 4)) + 1)) l1 (l1.length : Int) x30_3) = some r := by rw [if_pos rfl] at H; exact H
                                clear H
                                have H := H1
                                clear H1
                                have H' := Aside0.mk H
                                clear H
                                go_wp2
                                go_meet
                                case rel => exact ⟨_, (wrap64 ((wrap64 (Int.tmod (rd l1 x30_3) 4)) + 1)), (by first | rfl | (simp; done) | (simp [*]; done)), H', ⟨by have := HJ2.out; have := HJ6.out; have := HK3.out; have := HJ12.out; first | omega | exact Nat.le_refl _⟩, ⟨by repeat (first | (with_reducible first | exact HB.out | apply below_alloc | apply pw_below_drewN | apply below_drew1) | exact HB.out)⟩⟩
                              · replace c16 := Bool.eq_false_iff.mpr c16
                                subst c16
                                have H1 : (laws_FnFieldsJoined.j4 kj12 l0 x5_3 x30_3 (wrap64 (Int.tmod (rd l1 x30_3) 4)) l1 (l1.length : Int) x30_3) = some r := by rw [if_neg (show ¬ (false = true) by decide)] at H; exact H
                                clear H
                                have H := H1
                                clear H1
                                have H' := Aside0.mk H
                                clear H
                                go_wp2
                                go_meet
                                case rel => exact ⟨_, ((wrap64 (Int.tmod (rd l1 x30_3) 4))), (by first | rfl | (simp; done) | (simp [*]; done)), H', ⟨by have := HJ2.out; have := HJ6.out; have := HK3.out; have := HJ12.out; first | omega | exact Nat.le_refl _⟩, ⟨by repeat (first | (with_reducible first | exact HB.out | apply below_alloc | apply pw_below_drewN | apply below_drew1) | exact HB.out)⟩⟩
                            case rest =>
                              clear HC15
                              try clear c1
                              try clear p1
                              try clear q1
                              try clear hx1
                              try clear p2
                              try clear c5
                              try clear c6
                              try clear p6
                              try clear c8
                              try clear c8b0
                              try clear c8b1
                              try clear c9
                              try clear c10
                              try clear c10b0
                              try clear c11
                              try clear c11b0
                              try clear p11
                              try clear q11
                              try clear hx11
                              try clear c12
                              try clear c12b0
                              try clear c14
                              try clear c14b0
                              try clear c16
                              try clear hx112_0
                              try clear p1
                              try clear p11
                              try clear p112
                              try clear p2
                              try clear p6
                              try clear q1
                              try clear q11
                              try clear q112
                              obtain ⟨kq, x8_14, rfl, HA, HJ14, HB⟩ := hcut
                              cases kq with
                              | zero => exact absurd HA.out (by simp [laws_FnFieldsJoined.j4])
                              | succ kj14 =>
                                have H := HA.out
                                clear HA
                                simp only [laws_FnFieldsJoined.j4] at H
                                have H' := Aside0.mk H
                                clear H
                                go_wp2
                                go_loopg [5, 49] kj14 (fun kq v5 v49 w' => ∃ (x5_6 : ByteArray) (x49_6 : Int), v5 = .string x5_6 ∧ v49 = .int .i64 x49_6 ∧ Aside0 (laws_FnFieldsJoined.l1 kq l0 x5_6 x30_3 l1 (l1.length : Int) x30_3 x8_14 x49_6 = some r) ∧ Aside0 (kq ≤ kj14) ∧ Aside0 (Below w.heap.size w w'))
                                case atStart => exact ⟨(x5_3), (0), (by first | rfl | (simp; done) | (simp [*]; done)), (by first | rfl | (simp; done) | (simp [*]; done)), H', ⟨Nat.le_refl _⟩, ⟨by repeat (first | (with_reducible first | exact HB.out | apply below_alloc | apply pw_below_drewN | apply below_drew1) | exact HB.out)⟩⟩
                                case round =>
                                  clear H'
                                  try clear c1
                                  try clear p1
                                  try clear q1
                                  try clear hx1
                                  try clear p2
                                  try clear c5
                                  try clear c6
                                  try clear p6
                                  try clear c8
                                  try clear c8b0
                                  try clear c8b1
                                  try clear c9
                                  try clear c10
                                  try clear c10b0
                                  try clear c11
                                  try clear c11b0
                                  try clear p11
                                  try clear q11
                                  try clear hx11
                                  try clear c12
                                  try clear c12b0
                                  try clear c14
                                  try clear c14b0
                                  try clear c16
                                  try clear hx112_0
                                  try clear p1
                                  try clear p11
                                  try clear p112
                                  try clear p2
                                  try clear p6
                                  try clear q1
                                  try clear q11
                                  try clear q112
                                  obtain ⟨x5_6, x49_6, rfl, rfl, HA, HK6, HB⟩ := hrel
                                  cases gk with
                                  | zero => exact absurd HA.out (by simp [laws_FnFieldsJoined.l1])
                                  | succ k6 =>
                                    have H := HA.out
                                    clear HA
                                    simp only [laws_FnFieldsJoined.l1] at H
                                    by_cases c17 : x49_6 < x8_14
                                    · rw [if_pos c17] at H
                                      have c17b0 : decide (x49_6 < x8_14) = true := decide_eq_true c17
                                      clear c17
                                      by_cases c18 : x5_6.size + 1 ≤ 9223372036854775807
                                      · rw [if_pos c18] at H
                                        have c18b0 := eq_true c18
                                        have c18b1 : decide (x5_6.size + 1 ≤ 9223372036854775807) = true := decide_eq_true c18
                                        try have c18b2 : (9223372036854775807 < x5_6.size + 1) = False := eq_false (Nat.not_lt.2 c18)
                                        have H' := Aside0.mk H
                                        clear H
                                        go_wp2
                                        go_roundg k6
                                        case measure => have := HJ2.out; have := HJ6.out; have := HK3.out; have := HJ12.out; have := HJ14.out; have := HK6.out; omega
                                        case rel => exact ⟨(x5_6 ++ (⟨#[47]⟩ : ByteArray)), (wrap64 (x49_6 + 1)), (by first | rfl | (simp; done) | (simp [*]; done)), (by first | rfl | (simp; done) | (simp [*]; done)), H', ⟨by have := HJ2.out; have := HJ6.out; have := HK3.out; have := HJ12.out; have := HJ14.out; have := HK6.out; omega⟩, ⟨by repeat (first | (with_reducible first | exact HB.out | apply below_alloc | apply pw_below_drewN | apply below_drew1) | exact HB.out)⟩⟩
                                      · rw [if_neg c18] at H
                                        exact absurd H (by simp)
                                    · rw [if_neg c17] at H
                                      have c17b0 : decide (x49_6 < x8_14) = false := decide_eq_false c17
                                      clear c17
                                      by_cases c19 : x30_3 < (l0.length : Int)
                                      · rw [if_pos c19] at H
                                        have c19b0 : decide (x30_3 < (l0.length : Int)) = true := decide_eq_true c19
                                        clear c19
                                        by_cases c20 : 0 ≤ x30_3
                                        · rw [if_pos c20] at H
                                          have c20b0 : decide (0 ≤ x30_3) = true := decide_eq_true c20
                                          clear c20
                                          by_cases c21 : (rdOf ByteArray.empty l0 x30_3).toList = ([] : List UInt8)
                                          · rw [if_pos c21] at H
                                            have c21b0 : ((rdOf ByteArray.empty l0 x30_3).toList == ([] : List UInt8)) = true := beq_iff_eq.mpr c21
                                            have c21b1 : ((rdOf ByteArray.empty l0 x30_3).toList != ([] : List UInt8)) = false := bne_eq_false_iff_eq.mpr c21
                                            clear c21
                                            obtain rfl := Option.some.inj H
                                            have p113 : 0 ≤ (x30_3 : Int) := of_decide_eq_true (by first | (with_reducible assumption) | assumption)
                                            have q113 : x30_3 < (l0.length : Int) := of_decide_eq_true (by first | (with_reducible assumption) | assumption)
                                            obtain ⟨ad113, e113, hx113_0⟩ := Kd.at_string HR0.out x30_3 p113 q113
                                            cases e113
                                            replace hx113_0 := (HB.out.cell (World.block_lt_of_cell? w _ hx113_0)).trans hx113_0
                                            replace p113 := eq_true p113
                                            replace q113 := eq_true q113
                                            go_wp2
                                            go_ret
                                            exact ⟨by first | rfl | (simp [errW_none, errW_some] <;> rfl) | (simp [*, errW_none, errW_some] <;> rfl), by repeat (first | (with_reducible first | exact HB.out | apply below_alloc | apply pw_below_drewN | apply below_drew1) | exact HB.out)⟩
                                          · rw [if_neg c21] at H
                                            have c21b0 : ((rdOf ByteArray.empty l0 x30_3).toList == ([] : List UInt8)) = false := beq_eq_false_iff_ne.mpr c21
                                            have c21b1 : ((rdOf ByteArray.empty l0 x30_3).toList != ([] : List UInt8)) = true := bne_iff_ne.mpr c21
                                            replace H := Option.bind_eq_some_iff.mp H
                                            obtain ⟨t115, A220, H⟩ := H
                                            replace H : (if t115 = true then (some true) else (if ((rdOf ByteArray.empty l0 x30_3).size : Int) > 1000 then (some true) else (if x5_6.size + (rdOf ByteArray.empty l0 x30_3).size ≤ 9223372036854775807 then (laws_FnFieldsJoined.l0 k6 l0 (x5_6 ++ (rdOf ByteArray.empty l0 x30_3)) l1 (l1.length : Int) (wrap64 (x30_3 + 1))) else (none)))) = some r := H
                                            have A22 := Aside0.mk A220
                                            clear A220
                                            by_cases c23 : t115 = true
                                            · subst c23
                                              have H1 : (some true) = some r := by rw [if_pos rfl] at H; exact H
                                              clear H
                                              have H := H1
                                              clear H1
                                              obtain rfl := Option.some.inj H
                                              have p113 : 0 ≤ (x30_3 : Int) := of_decide_eq_true (by first | (with_reducible assumption) | assumption)
                                              have q113 : x30_3 < (l0.length : Int) := of_decide_eq_true (by first | (with_reducible assumption) | assumption)
                                              obtain ⟨ad113, e113, hx113_0⟩ := Kd.at_string HR0.out x30_3 p113 q113
                                              cases e113
                                              replace hx113_0 := (HB.out.cell (World.block_lt_of_cell? w _ hx113_0)).trans hx113_0
                                              replace p113 := eq_true p113
                                              replace q113 := eq_true q113
                                              have p114 : 0 ≤ (x30_3 : Int) := of_decide_eq_true (by first | (with_reducible assumption) | assumption)
                                              have q114 : x30_3 < (l0.length : Int) := of_decide_eq_true (by first | (with_reducible assumption) | assumption)
                                              obtain ⟨ad114, e114, hx114_0⟩ := Kd.at_string HR0.out x30_3 p114 q114
                                              obtain rfl : ad113 = ad114 := (by injection e114)
                                              replace hx114_0 := (HB.out.cell (World.block_lt_of_cell? w _ hx114_0)).trans hx114_0
                                              replace p114 := eq_true p114
                                              replace q114 := eq_true q114
                                              go_wp2_with (first | (go_at_call 13; (with_reducible refine (laws_has.calls k6 (rdOf ByteArray.empty l0 x30_3) (⟨#[47]⟩ : ByteArray) true _ A22.out).mono ?_); rintro e w' ⟨rfl, ⟨nd, rfl⟩⟩))
                                              go_ret
                                              exact ⟨by first | rfl | (simp [errW_none, errW_some] <;> rfl) | (simp [*, errW_none, errW_some] <;> rfl), by repeat (first | (with_reducible first | exact HB.out | apply below_alloc | apply pw_below_drewN | apply below_drew1) | exact HB.out)⟩
                                            · replace c23 := Bool.eq_false_iff.mpr c23
                                              subst c23
                                              have H1 : (if ((rdOf ByteArray.empty l0 x30_3).size : Int) > 1000 then (some true) else (if x5_6.size + (rdOf ByteArray.empty l0 x30_3).size ≤ 9223372036854775807 then (laws_FnFieldsJoined.l0 k6 l0 (x5_6 ++ (rdOf ByteArray.empty l0 x30_3)) l1 (l1.length : Int) (wrap64 (x30_3 + 1))) else (none))) = some r := by rw [if_neg (show ¬ (false = true) by decide)] at H; exact H
                                              clear H
                                              have H := H1
                                              clear H1
                                              by_cases c24 : ((rdOf ByteArray.empty l0 x30_3).size : Int) > 1000
                                              · rw [if_pos c24] at H
                                                have c24b0 : decide (1000 < ((rdOf ByteArray.empty l0 x30_3).size : Int)) = true := decide_eq_true c24
                                                have c24b1 : decide (1000 < (rdOf ByteArray.empty l0 x30_3).size) = true := decide_eq_true (by omega)
                                                clear c24
                                                obtain rfl := Option.some.inj H
                                                have p113 : 0 ≤ (x30_3 : Int) := of_decide_eq_true (by first | (with_reducible assumption) | assumption)
                                                have q113 : x30_3 < (l0.length : Int) := of_decide_eq_true (by first | (with_reducible assumption) | assumption)
                                                obtain ⟨ad113, e113, hx113_0⟩ := Kd.at_string HR0.out x30_3 p113 q113
                                                cases e113
                                                replace hx113_0 := (HB.out.cell (World.block_lt_of_cell? w _ hx113_0)).trans hx113_0
                                                replace p113 := eq_true p113
                                                replace q113 := eq_true q113
                                                have p114 : 0 ≤ (x30_3 : Int) := of_decide_eq_true (by first | (with_reducible assumption) | assumption)
                                                have q114 : x30_3 < (l0.length : Int) := of_decide_eq_true (by first | (with_reducible assumption) | assumption)
                                                obtain ⟨ad114, e114, hx114_0⟩ := Kd.at_string HR0.out x30_3 p114 q114
                                                obtain rfl : ad113 = ad114 := (by injection e114)
                                                replace hx114_0 := (HB.out.cell (World.block_lt_of_cell? w _ hx114_0)).trans hx114_0
                                                replace p114 := eq_true p114
                                                replace q114 := eq_true q114
                                                go_wp2_with (first | (go_at_call 13; (with_reducible refine (laws_has.calls k6 (rdOf ByteArray.empty l0 x30_3) (⟨#[47]⟩ : ByteArray) false _ A22.out).mono ?_); rintro e w' ⟨rfl, ⟨nd, rfl⟩⟩; have p116 : 0 ≤ (x30_3 : Int) := of_decide_eq_true (by first | (with_reducible assumption) | assumption); have q116 : x30_3 < (l0.length : Int) := of_decide_eq_true (by first | (with_reducible assumption) | assumption); obtain ⟨ad116, e116, hx116_0⟩ := Kd.at_string HR0.out x30_3 p116 q116; obtain rfl : ad113 = ad116 := (by injection e116); replace hx116_0 := (HB.out.cell (World.block_lt_of_cell? w _ hx116_0)).trans hx116_0; replace p116 := eq_true p116; replace q116 := eq_true q116))
                                                go_ret
                                                exact ⟨by first | rfl | (simp [errW_none, errW_some] <;> rfl) | (simp [*, errW_none, errW_some] <;> rfl), by repeat (first | (with_reducible first | exact HB.out | apply below_alloc | apply pw_below_drewN | apply below_drew1) | exact HB.out)⟩
                                              · rw [if_neg c24] at H
                                                have c24b0 : decide (1000 < ((rdOf ByteArray.empty l0 x30_3).size : Int)) = false := decide_eq_false c24
                                                have c24b1 : decide (1000 < (rdOf ByteArray.empty l0 x30_3).size) = false := decide_eq_false (by omega)
                                                clear c24
                                                by_cases c25 : x5_6.size + (rdOf ByteArray.empty l0 x30_3).size ≤ 9223372036854775807
                                                · rw [if_pos c25] at H
                                                  have c25b0 := eq_true c25
                                                  have c25b1 : decide (x5_6.size + (rdOf ByteArray.empty l0 x30_3).size ≤ 9223372036854775807) = true := decide_eq_true c25
                                                  try have c25b2 : (9223372036854775807 < x5_6.size + (rdOf ByteArray.empty l0 x30_3).size) = False := eq_false (Nat.not_lt.2 c25)
                                                  have H' := Aside0.mk H
                                                  clear H
                                                  have p113 : 0 ≤ (x30_3 : Int) := of_decide_eq_true (by first | (with_reducible assumption) | assumption)
                                                  have q113 : x30_3 < (l0.length : Int) := of_decide_eq_true (by first | (with_reducible assumption) | assumption)
                                                  obtain ⟨ad113, e113, hx113_0⟩ := Kd.at_string HR0.out x30_3 p113 q113
                                                  cases e113
                                                  replace hx113_0 := (HB.out.cell (World.block_lt_of_cell? w _ hx113_0)).trans hx113_0
                                                  replace p113 := eq_true p113
                                                  replace q113 := eq_true q113
                                                  have p114 : 0 ≤ (x30_3 : Int) := of_decide_eq_true (by first | (with_reducible assumption) | assumption)
                                                  have q114 : x30_3 < (l0.length : Int) := of_decide_eq_true (by first | (with_reducible assumption) | assumption)
                                                  obtain ⟨ad114, e114, hx114_0⟩ := Kd.at_string HR0.out x30_3 p114 q114
                                                  obtain rfl : ad113 = ad114 := (by injection e114)
                                                  replace hx114_0 := (HB.out.cell (World.block_lt_of_cell? w _ hx114_0)).trans hx114_0
                                                  replace p114 := eq_true p114
                                                  replace q114 := eq_true q114
                                                  go_wp2_with (first | (go_at_call 13; (with_reducible refine (laws_has.calls k6 (rdOf ByteArray.empty l0 x30_3) (⟨#[47]⟩ : ByteArray) false _ A22.out).mono ?_); rintro e w' ⟨rfl, ⟨nd, rfl⟩⟩; have p116 : 0 ≤ (x30_3 : Int) := of_decide_eq_true (by first | (with_reducible assumption) | assumption); have q116 : x30_3 < (l0.length : Int) := of_decide_eq_true (by first | (with_reducible assumption) | assumption); obtain ⟨ad116, e116, hx116_0⟩ := Kd.at_string HR0.out x30_3 p116 q116; obtain rfl : ad113 = ad116 := (by injection e116); replace hx116_0 := (HB.out.cell (World.block_lt_of_cell? w _ hx116_0)).trans hx116_0; replace p116 := eq_true p116; replace q116 := eq_true q116; have p117 : 0 ≤ (x30_3 : Int) := of_decide_eq_true (by first | (with_reducible assumption) | assumption); have q117 : x30_3 < (l0.length : Int) := of_decide_eq_true (by first | (with_reducible assumption) | assumption); obtain ⟨ad117, e117, hx117_0⟩ := Kd.at_string HR0.out x30_3 p117 q117; obtain rfl : ad113 = ad117 := (by injection e117); replace hx117_0 := (HB.out.cell (World.block_lt_of_cell? w _ hx117_0)).trans hx117_0; replace p117 := eq_true p117; replace q117 := eq_true q117))
                                                  go_roundg k6
                                                  case measure => have := HJ2.out; have := HJ6.out; have := HK3.out; have := HJ12.out; have := HJ14.out; have := HK6.out; omega
                                                  case rel => exact ⟨(x5_6 ++ (rdOf ByteArray.empty l0 x30_3)), (wrap64 (x30_3 + 1)), (by first | rfl | (simp; done) | (simp [*]; done)), (by first | rfl | (simp; done) | (simp [*]; done)), H', ⟨by have := HJ2.out; have := HJ6.out; have := HK3.out; have := HJ12.out; have := HJ14.out; have := HK6.out; omega⟩, ⟨by repeat (first | (with_reducible first | exact HB.out | apply below_alloc | apply pw_below_drewN | apply below_drew1) | exact HB.out)⟩⟩
                                                · rw [if_neg c25] at H
                                                  exact absurd H (by simp)
                                        · rw [if_neg c20] at H
                                          exact absurd H (by simp)
                                      · rw [if_neg c19] at H
                                        have c19b0 : decide (x30_3 < (l0.length : Int)) = false := decide_eq_false c19
                                        clear c19
                                        have H' := Aside0.mk H
                                        clear H
                                        go_wp2
                                        go_roundg k6
                                        case measure => have := HJ2.out; have := HJ6.out; have := HK3.out; have := HJ12.out; have := HJ14.out; have := HK6.out; omega
                                        case rel => exact ⟨(x5_6), (wrap64 (x30_3 + 1)), (by first | rfl | (simp; done) | (simp [*]; done)), (by first | rfl | (simp; done) | (simp [*]; done)), H', ⟨by have := HJ2.out; have := HJ6.out; have := HK3.out; have := HJ12.out; have := HJ14.out; have := HK6.out; omega⟩, ⟨by repeat (first | (with_reducible first | exact HB.out | apply below_alloc | apply pw_below_drewN | apply below_drew1) | exact HB.out)⟩⟩
                      · rw [if_neg c12] at H
                        exact absurd H (by simp)
                    · rw [if_neg c11] at H
                      exact absurd H (by simp)
                  · rw [if_neg c10] at H
                    have c10b0 : decide (x30_3 < (l1.length : Int)) = false := decide_eq_false c10
                    clear c10
                    replace H := Option.bind_eq_some_iff.mp H
                    obtain ⟨t108, A260, H⟩ := H
                    replace H : ((laws_sameTexts.f k3 t108 l0).bind fun t111 => (some t111)) = some r := H
                    have A26 := Aside0.mk A260
                    clear A260
                    replace H := Option.bind_eq_some_iff.mp H
                    obtain ⟨t111, A270, H⟩ := H
                    replace H : (some t111) = some r := H
                    have A27 := Aside0.mk A270
                    clear A270
                    obtain rfl := Option.some.inj H
                    go_wp2_with (first | ((with_reducible refine gate_callee (f := 23) rfl ?_); refine goesL_ (some 86) rfl rfl Try.func23 (by kernel_rfl) rfl #[.string x5_3] rfl (by (try simp only [List.map_toArray, List.map_cons, List.map_nil]); first | done | rfl | (simp only [List.length_drop, List.length_take]; rfl)) ?_; (with_reducible refine (impl_FieldsSlash.calls x5_3 t108 _ A26.out).mono ?_); rintro e w28 ⟨v109, rfl, ho0, hb⟩; refine ⟨_, rfl, ?_⟩; have n0_ := Aside0.mk (Kd.R_lower ho0 (below_size (by repeat (first | (with_reducible first | exact HB.out | apply below_alloc | apply pw_below_drewN | apply below_drew1) | exact HB.out)))); have n1_ := Aside0.mk (below_step (by repeat (first | (with_reducible first | exact HB.out | apply below_alloc | apply pw_below_drewN | apply below_drew1) | exact HB.out)) hb); clear HB; have HO110 := n0_; have HB := n1_; clear n0_ n1_; (try clear hb); (try clear hb2); (try clear hk); (try clear hi); (try clear ho0); obtain ⟨Ao29, co29, eo29⟩ := Kd.R_slice HO110.out; subst eo29) | ((with_reducible refine gate_callee (f := 24) rfl ?_); refine goesL_ (some 88) rfl rfl Try.func24 (by kernel_rfl) rfl #[.slice Ao29 t108.length co29, .slice A0 l0.length c0] rfl (by (try simp only [List.map_toArray, List.map_cons, List.map_nil]); first | done | rfl | (simp only [List.length_drop, List.length_take]; rfl)) ?_; (with_reducible refine (laws_sameTexts.calls k3 _ _ t108 _ _ l0 t111 _ ?side1 ?side2 ?side3 ?side4 A27.out).mono ?_); (case side1 => repeat (first | exact (Kd.R_reads' HO110.out).2.2 | (with_reducible refine Kd.C_alloc ?_ _) | (with_reducible refine Kd.C_drewN ?_ _) | (with_reducible refine Kd.C_drew ?_))); (case side2 => exact (Kd.R_reads' HO110.out).2.1); (case side3 => repeat (first | exact (Kd.C_below HR0.out HB.out) | (with_reducible refine Kd.C_alloc ?_ _) | (with_reducible refine Kd.C_drewN ?_ _) | (with_reducible refine Kd.C_drew ?_))); (case side4 => exact HC0.out); rintro e w' ⟨rfl, ⟨nd, rfl⟩⟩; refine ⟨_, rfl, ?_⟩))
                    go_ret
                    exact ⟨by first | rfl | (simp [errW_none, errW_some] <;> rfl) | (simp [*, errW_none, errW_some] <;> rfl), by repeat (first | (with_reducible first | exact HB.out | apply below_alloc | apply pw_below_drewN | apply below_drew1) | exact HB.out)⟩

end Go.Proofs.Ytelijbnnhgmklaa.PFnFieldsJoined
