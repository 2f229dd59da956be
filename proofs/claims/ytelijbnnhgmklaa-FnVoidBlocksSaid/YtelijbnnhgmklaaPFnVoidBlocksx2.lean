-- PRINTED BY print.sh 35421559b90ae4d0a3588c463048766b98c2df88dd9212a6774a882060cdf62d: not written by this session
import Derived.Test.YtelijbnnhgmklaaPFnVoidBlocksx0
import Derived.Test.YtelijbnnhgmklaaPFnVoidBlocksx1
namespace Go.Proofs.Ytelijbnnhgmklaa.PFnVoidBlocks
open Go.RowKit Go.Proofs.YtelijbnnhgmklaaW.PrintWords Go.Proofs.YtelijbnnhgmklaaW.PrintLast Go.Proofs.YtelijbnnhgmklaaW.PrintMore
attribute [local go_sem] max2_int min2_int max_two min_two max_three min_three max_four min_four   -- for this text's walks alone
set_option linter.unusedVariables false
set_option linter.unusedSimpArgs false

/-! ### laws_FnVoidBlocks: function 6 -/
mutual
def laws_FnVoidBlocks.j0 : Nat → ByteArray → Bool → Option (Bool)
  | 0, _, _ => none
  | k + 1, x0, x18 => if x18 = true then (some false) else ((impl_RawText.f x0).bind fun t107 => ((impl_Block.f x0).bind fun t108 => (if t108 = true then ((impl_Void.f x0).bind fun t109 => ((some (([t107, !t109] : List Bool) : List Bool)).bind fun y110 => (laws_FnVoidBlocks.j1 k x0 0 y110 (y110.length : Int) 0))) else ((some (([t107, false] : List Bool) : List Bool)).bind fun y113 => (laws_FnVoidBlocks.j1 k x0 0 y113 (y113.length : Int) 0)))))
def laws_FnVoidBlocks.j1 : Nat → ByteArray → Int → List Bool → Int → Int → Option (Bool)
  | 0, _, _, _, _, _ => none
  | k + 1, x0, x3, x28, x29, x30 => laws_FnVoidBlocks.l0 k x0 x3 x28 x29 x30
def laws_FnVoidBlocks.l0 : Nat → ByteArray → Int → List Bool → Int → Int → Option (Bool)
  | 0, _, _, _, _, _ => none
  | k + 1, x0, x3, x28, x29, x30 => if x30 < x29 then (if 0 ≤ x30 then (if x30 < (x28.length : Int) then (if rdOf false x28 x30 = true then (laws_FnVoidBlocks.l0 k x0 (wrap64 (x3 + 1)) x28 x29 (wrap64 (x30 + 1))) else (laws_FnVoidBlocks.l0 k x0 x3 x28 x29 (wrap64 (x30 + 1)))) else (none)) else (none)) else (if x3 ≤ 1 then ((impl_RawText.f x0).bind fun t117 => (if t117 = true then ((impl_Void.f x0).bind fun t118 => (some (!t118))) else (some (!false)))) else (some false))
end
def laws_FnVoidBlocks.f (k : Nat) (a0 : ByteArray) : Option (Bool) := if (a0.size : Int) > 2147483647 then (some true) else ((impl_Void.f (⟨#[98, 114]⟩ : ByteArray)).bind fun t104 => (if t104 = true then ((impl_Block.f (⟨#[100, 105, 118]⟩ : ByteArray)).bind fun t105 => (if t105 = true then ((impl_RawText.f (⟨#[115, 99, 114, 105, 112, 116]⟩ : ByteArray)).bind fun t106 => (laws_FnVoidBlocks.j0 k a0 (!t106))) else (laws_FnVoidBlocks.j0 k a0 true))) else (laws_FnVoidBlocks.j0 k a0 true)))
theorem laws_FnVoidBlocks.mono_l : ∀ k, (∀ y0 y1, LeO (laws_FnVoidBlocks.j0 k y0 y1) (laws_FnVoidBlocks.j0 (k + 1) y0 y1)) ∧ (∀ y0 y1 y2 y3 y4, LeO (laws_FnVoidBlocks.j1 k y0 y1 y2 y3 y4) (laws_FnVoidBlocks.j1 (k + 1) y0 y1 y2 y3 y4)) ∧ (∀ y0 y1 y2 y3 y4, LeO (laws_FnVoidBlocks.l0 k y0 y1 y2 y3 y4) (laws_FnVoidBlocks.l0 (k + 1) y0 y1 y2 y3 y4))
  | 0 => ⟨fun _ _ r h => by simp [laws_FnVoidBlocks.j0] at h, fun _ _ _ _ _ r h => by simp [laws_FnVoidBlocks.j1] at h, fun _ _ _ _ _ r h => by simp [laws_FnVoidBlocks.l0] at h⟩
  | k + 1 => by
    obtain ⟨ih0, ih1, ih2⟩ := laws_FnVoidBlocks.mono_l k
    refine ⟨?_, ?_, ?_⟩
    · intro y0 y1
      unfold laws_FnVoidBlocks.j0
      repeat' first
      | (with_reducible exact ih0 _ _)
      | (with_reducible exact ih1 _ _ _ _ _)
      | (with_reducible exact ih2 _ _ _ _ _)
      | (with_reducible exact LeO.refl _)
      | (with_reducible exact LeO.none _)
      | (with_reducible refine LeO.ite ?_ ?_)
      | (with_reducible refine LeO.bind ?_ (fun _ => ?_))
      | exact ih0 _ _
      | exact ih1 _ _ _ _ _
      | exact ih2 _ _ _ _ _
      | exact LeO.none _
      | refine LeO.ite ?_ ?_
      | refine LeO.bind ?_ (fun _ => ?_)
    · intro y0 y1 y2 y3 y4
      unfold laws_FnVoidBlocks.j1
      repeat' first
      | (with_reducible exact ih0 _ _)
      | (with_reducible exact ih1 _ _ _ _ _)
      | (with_reducible exact ih2 _ _ _ _ _)
      | (with_reducible exact LeO.refl _)
      | (with_reducible exact LeO.none _)
      | (with_reducible refine LeO.ite ?_ ?_)
      | (with_reducible refine LeO.bind ?_ (fun _ => ?_))
      | exact ih0 _ _
      | exact ih1 _ _ _ _ _
      | exact ih2 _ _ _ _ _
      | exact LeO.none _
      | refine LeO.ite ?_ ?_
      | refine LeO.bind ?_ (fun _ => ?_)
    · intro y0 y1 y2 y3 y4
      unfold laws_FnVoidBlocks.l0
      repeat' first
      | (with_reducible exact ih0 _ _)
      | (with_reducible exact ih1 _ _ _ _ _)
      | (with_reducible exact ih2 _ _ _ _ _)
      | (with_reducible exact LeO.refl _)
      | (with_reducible exact LeO.none _)
      | (with_reducible refine LeO.ite ?_ ?_)
      | (with_reducible refine LeO.bind ?_ (fun _ => ?_))
      | exact ih0 _ _
      | exact ih1 _ _ _ _ _
      | exact ih2 _ _ _ _ _
      | exact LeO.none _
      | refine LeO.ite ?_ ?_
      | refine LeO.bind ?_ (fun _ => ?_)
theorem laws_FnVoidBlocks.mono : ∀ a0 k, LeO (laws_FnVoidBlocks.f k a0) (laws_FnVoidBlocks.f (k + 1) a0) := by
  intro a0 k
  obtain ⟨ih0, ih1, ih2⟩ := laws_FnVoidBlocks.mono_l k
  unfold laws_FnVoidBlocks.f
  repeat' first
      | (with_reducible exact ih0 _ _)
      | (with_reducible exact ih1 _ _ _ _ _)
      | (with_reducible exact ih2 _ _ _ _ _)
      | (with_reducible exact LeO.refl _)
      | (with_reducible exact LeO.none _)
      | (with_reducible refine LeO.ite ?_ ?_)
      | (with_reducible refine LeO.bind ?_ (fun _ => ?_))
      | exact ih0 _ _
      | exact ih1 _ _ _ _ _
      | exact ih2 _ _ _ _ _
      | exact LeO.none _
      | refine LeO.ite ?_ ?_
      | refine LeO.bind ?_ (fun _ => ?_)
set_option maxHeartbeats 8000000 in
set_option maxRecDepth 100000 in
theorem laws_FnVoidBlocks.calls (k : Nat) (a0 : ByteArray) (r : Bool) (w : World) (h : laws_FnVoidBlocks.f k a0 = some r) :
    Calls Try.prog 6 #[.string a0] w fun e w' => e = .returned (.bool r) ∧ Below w.heap.size w w' := by
  have HB := Aside0.mk (Below.refl w.heap.size w)
  have H : (if (a0.size : Int) > 2147483647 then (some true) else ((impl_Void.f (⟨#[98, 114]⟩ : ByteArray)).bind fun t104 => (if t104 = true then ((impl_Block.f (⟨#[100, 105, 118]⟩ : ByteArray)).bind fun t105 => (if t105 = true then ((impl_RawText.f (⟨#[115, 99, 114, 105, 112, 116]⟩ : ByteArray)).bind fun t106 => (laws_FnVoidBlocks.j0 k a0 (!t106))) else (laws_FnVoidBlocks.j0 k a0 true))) else (laws_FnVoidBlocks.j0 k a0 true)))) = some r := h
  clear h
  by_cases c2 : (a0.size : Int) > 2147483647
  · rw [if_pos c2] at H
    have c2b0 : decide (2147483647 < (a0.size : Int)) = true := decide_eq_true c2
    have c2b1 : decide (2147483647 < a0.size) = true := decide_eq_true (by omega)
    clear c2
    obtain rfl := Option.some.inj H
    go_enter Try.func6, Try.ntmps6
    go_wp2
    go_ret
    exact ⟨by first | rfl | (simp [errW_none, errW_some] <;> rfl) | (simp [*, errW_none, errW_some] <;> rfl), by repeat (first | (with_reducible first | exact HB.out | apply below_alloc | apply pw_below_drewN | apply below_drew1) | exact HB.out)⟩
  · rw [if_neg c2] at H
    have c2b0 : decide (2147483647 < (a0.size : Int)) = false := decide_eq_false c2
    have c2b1 : decide (2147483647 < a0.size) = false := decide_eq_false (by omega)
    clear c2
    have HC3 := Aside0.mk H
    clear H
    go_enter Try.func6, Try.ntmps6
    go_upto_region 3 with (fail)
    go_cut [18] (fun v18 wc => ∃ (kq : Nat) (x18_2 : Bool), v18 = .bool x18_2 ∧ Aside0 (laws_FnVoidBlocks.j0 kq a0 x18_2 = some r) ∧ Aside0 (kq ≤ k) ∧ Aside0 (Below w.heap.size w wc))
    case first =>
      have H := HC3.out
      clear HC3
      replace H := Option.bind_eq_some_iff.mp H
      obtain ⟨t104, A40, H⟩ := H
      replace H : (if t104 = true then ((impl_Block.f (⟨#[100, 105, 118]⟩ : ByteArray)).bind fun t105 => (if t105 = true then ((impl_RawText.f (⟨#[115, 99, 114, 105, 112, 116]⟩ : ByteArray)).bind fun t106 => (laws_FnVoidBlocks.j0 k a0 (!t106))) else (laws_FnVoidBlocks.j0 k a0 true))) else (laws_FnVoidBlocks.j0 k a0 true)) = some r := H
      have A4 := Aside0.mk A40
      clear A40
      by_cases c5 : t104 = true
      · subst c5
        have H1 : ((impl_Block.f (⟨#[100, 105, 118]⟩ : ByteArray)).bind fun t105 => (if t105 = true then ((impl_RawText.f (⟨#[115, 99, 114, 105, 112, 116]⟩ : ByteArray)).bind fun t106 => (laws_FnVoidBlocks.j0 k a0 (!t106))) else (laws_FnVoidBlocks.j0 k a0 true))) = some r := by rw [if_pos rfl] at H; exact H
        clear H
        have H := H1
        clear H1
        replace H := Option.bind_eq_some_iff.mp H
        obtain ⟨t105, A60, H⟩ := H
        replace H : (if t105 = true then ((impl_RawText.f (⟨#[115, 99, 114, 105, 112, 116]⟩ : ByteArray)).bind fun t106 => (laws_FnVoidBlocks.j0 k a0 (!t106))) else (laws_FnVoidBlocks.j0 k a0 true)) = some r := H
        have A6 := Aside0.mk A60
        clear A60
        by_cases c7 : t105 = true
        · subst c7
          have H1 : ((impl_RawText.f (⟨#[115, 99, 114, 105, 112, 116]⟩ : ByteArray)).bind fun t106 => (laws_FnVoidBlocks.j0 k a0 (!t106))) = some r := by rw [if_pos rfl] at H; exact H
          clear H
          have H := H1
          clear H1
          replace H := Option.bind_eq_some_iff.mp H
          obtain ⟨t106, A80, H⟩ := H
          replace H : (laws_FnVoidBlocks.j0 k a0 (!t106)) = some r := H
          have A8 := Aside0.mk A80
          clear A80
          have H' := Aside0.mk H
          clear H
          go_wp2_with (first | ((with_reducible refine gate_callee (f := 16) rfl ?_); refine goesL_ (some 9) rfl rfl Try.func16 (by kernel_rfl) rfl #[.string (⟨#[98, 114]⟩ : ByteArray)] rfl (by (try simp only [List.map_toArray, List.map_cons, List.map_nil]); first | done | rfl | (simp only [List.length_drop, List.length_take]; rfl)) ?_; (with_reducible refine (impl_Void.calls (⟨#[98, 114]⟩ : ByteArray) true _ A4.out).mono ?_); rintro e w' ⟨rfl, ⟨nd, rfl⟩⟩; refine ⟨_, rfl, ?_⟩) | (go_at_call 18; (with_reducible refine (impl_Block.calls (⟨#[100, 105, 118]⟩ : ByteArray) true _ A6.out).mono ?_); rintro e w' ⟨rfl, ⟨nd, rfl⟩⟩) | (go_at_call 14; (with_reducible refine (impl_RawText.calls (⟨#[115, 99, 114, 105, 112, 116]⟩ : ByteArray) t106 _ A8.out).mono ?_); rintro e w' ⟨rfl, ⟨nd, rfl⟩⟩))
          go_meet
          case rel => exact ⟨_, (!t106), (by first | rfl | (simp; done) | (simp [*]; done)), H', ⟨by first | omega | exact Nat.le_refl _⟩, ⟨by repeat (first | (with_reducible first | exact HB.out | apply below_alloc | apply pw_below_drewN | apply below_drew1) | exact HB.out)⟩⟩
        · replace c7 := Bool.eq_false_iff.mpr c7
          subst c7
          have H1 : (laws_FnVoidBlocks.j0 k a0 true) = some r := by rw [if_neg (show ¬ (false = true) by decide)] at H; exact H
          clear H
          have H := H1
          clear H1
          have H' := Aside0.mk H
          clear H
          go_wp2_with (first | ((with_reducible refine gate_callee (f := 16) rfl ?_); refine goesL_ (some 9) rfl rfl Try.func16 (by kernel_rfl) rfl #[.string (⟨#[98, 114]⟩ : ByteArray)] rfl (by (try simp only [List.map_toArray, List.map_cons, List.map_nil]); first | done | rfl | (simp only [List.length_drop, List.length_take]; rfl)) ?_; (with_reducible refine (impl_Void.calls (⟨#[98, 114]⟩ : ByteArray) true _ A4.out).mono ?_); rintro e w' ⟨rfl, ⟨nd, rfl⟩⟩; refine ⟨_, rfl, ?_⟩) | (go_at_call 18; (with_reducible refine (impl_Block.calls (⟨#[100, 105, 118]⟩ : ByteArray) false _ A6.out).mono ?_); rintro e w' ⟨rfl, ⟨nd, rfl⟩⟩))
          go_meet
          case rel => exact ⟨_, (true), (by first | rfl | (simp; done) | (simp [*]; done)), H', ⟨by first | omega | exact Nat.le_refl _⟩, ⟨by repeat (first | (with_reducible first | exact HB.out | apply below_alloc | apply pw_below_drewN | apply below_drew1) | exact HB.out)⟩⟩
      · replace c5 := Bool.eq_false_iff.mpr c5
        subst c5
        have H1 : (laws_FnVoidBlocks.j0 k a0 true) = some r := by rw [if_neg (show ¬ (false = true) by decide)] at H; exact H
        clear H
        have H := H1
        clear H1
        have H' := Aside0.mk H
        clear H
        go_wp2_with (first | ((with_reducible refine gate_callee (f := 16) rfl ?_); refine goesL_ (some 9) rfl rfl Try.func16 (by kernel_rfl) rfl #[.string (⟨#[98, 114]⟩ : ByteArray)] rfl (by (try simp only [List.map_toArray, List.map_cons, List.map_nil]); first | done | rfl | (simp only [List.length_drop, List.length_take]; rfl)) ?_; (with_reducible refine (impl_Void.calls (⟨#[98, 114]⟩ : ByteArray) false _ A4.out).mono ?_); rintro e w' ⟨rfl, ⟨nd, rfl⟩⟩; refine ⟨_, rfl, ?_⟩))
        go_meet
        case rel => exact ⟨_, (true), (by first | rfl | (simp; done) | (simp [*]; done)), H', ⟨by first | omega | exact Nat.le_refl _⟩, ⟨by repeat (first | (with_reducible first | exact HB.out | apply below_alloc | apply pw_below_drewN | apply below_drew1) | exact HB.out)⟩⟩
    case rest =>
      clear HC3
      try clear c1
      try clear c2
      try clear c2b0
      try clear c2b1
      try clear p2
      try clear c5
      try clear c6
      try clear c7
      obtain ⟨kq, x18_2, rfl, HA, HJ2, HB⟩ := hcut
      cases kq with
      | zero => exact absurd HA.out (by simp [laws_FnVoidBlocks.j0])
      | succ kj2 =>
        have H := HA.out
        clear HA
        simp only [laws_FnVoidBlocks.j0] at H
        by_cases c9 : x18_2 = true
        · subst c9
          have H1 : (some false) = some r := by rw [if_pos rfl] at H; exact H
          clear H
          have H := H1
          clear H1
          obtain rfl := Option.some.inj H
          go_wp2
          go_ret
          exact ⟨by first | rfl | (simp [errW_none, errW_some] <;> rfl) | (simp [*, errW_none, errW_some] <;> rfl), by repeat (first | (with_reducible first | exact HB.out | apply below_alloc | apply pw_below_drewN | apply below_drew1) | exact HB.out)⟩
        · replace c9 := Bool.eq_false_iff.mpr c9
          subst c9
          have H1 : ((impl_RawText.f a0).bind fun t107 => ((impl_Block.f a0).bind fun t108 => (if t108 = true then ((impl_Void.f a0).bind fun t109 => ((some (([t107, !t109] : List Bool) : List Bool)).bind fun y110 => (laws_FnVoidBlocks.j1 kj2 a0 0 y110 (y110.length : Int) 0))) else ((some (([t107, false] : List Bool) : List Bool)).bind fun y113 => (laws_FnVoidBlocks.j1 kj2 a0 0 y113 (y113.length : Int) 0))))) = some r := by rw [if_neg (show ¬ (false = true) by decide)] at H; exact H
          clear H
          have H := H1
          clear H1
          have HC10 := Aside0.mk H
          clear H
          go_upto_region 6 with (fail)
          go_cut [28, 29, 30] (fun v28 v29 v30 wc => ∃ (kq : Nat) (x28_9 : List Bool) (x29_9 : Int) (x30_9 : Int), v29 = .int .i64 x29_9 ∧ v30 = .int .i64 x30_9 ∧ Aside0 (laws_FnVoidBlocks.j1 kq a0 0 x28_9 x29_9 x30_9 = some r) ∧ Aside0 (kq ≤ kj2) ∧ Aside0 (Kd.R Kd.bool 4 wc w.heap.size (fun _ => True) v28 x28_9) ∧ Aside0 (Below w.heap.size w wc))
          case first =>
            have H := HC10.out
            clear HC10
            replace H := Option.bind_eq_some_iff.mp H
            obtain ⟨t107, A110, H⟩ := H
            replace H : ((impl_Block.f a0).bind fun t108 => (if t108 = true then ((impl_Void.f a0).bind fun t109 => ((some (([t107, !t109] : List Bool) : List Bool)).bind fun y110 => (laws_FnVoidBlocks.j1 kj2 a0 0 y110 (y110.length : Int) 0))) else ((some (([t107, false] : List Bool) : List Bool)).bind fun y113 => (laws_FnVoidBlocks.j1 kj2 a0 0 y113 (y113.length : Int) 0)))) = some r := H
            have A11 := Aside0.mk A110
            clear A110
            replace H := Option.bind_eq_some_iff.mp H
            obtain ⟨t108, A120, H⟩ := H
            replace H : (if t108 = true then ((impl_Void.f a0).bind fun t109 => ((some (([t107, !t109] : List Bool) : List Bool)).bind fun y110 => (laws_FnVoidBlocks.j1 kj2 a0 0 y110 (y110.length : Int) 0))) else ((some (([t107, false] : List Bool) : List Bool)).bind fun y113 => (laws_FnVoidBlocks.j1 kj2 a0 0 y113 (y113.length : Int) 0))) = some r := H
            have A12 := Aside0.mk A120
            clear A120
            by_cases c13 : t108 = true
            · subst c13
              have H1 : ((impl_Void.f a0).bind fun t109 => ((some (([t107, !t109] : List Bool) : List Bool)).bind fun y110 => (laws_FnVoidBlocks.j1 kj2 a0 0 y110 (y110.length : Int) 0))) = some r := by rw [if_pos rfl] at H; exact H
              clear H
              have H := H1
              clear H1
              replace H := Option.bind_eq_some_iff.mp H
              obtain ⟨t109, A140, H⟩ := H
              replace H : ((some (([t107, !t109] : List Bool) : List Bool)).bind fun y110 => (laws_FnVoidBlocks.j1 kj2 a0 0 y110 (y110.length : Int) 0)) = some r := H
              have A14 := Aside0.mk A140
              clear A140
              obtain ⟨y110, hy110⟩ : ∃ y_ : List Bool, y_ = (([t107, !t109] : List Bool)) := ⟨_, rfl⟩
              replace H : (laws_FnVoidBlocks.j1 kj2 a0 0 y110 (y110.length : Int) 0) = some r := by first | (rw [hy110]; with_reducible exact H) | (have H2_ := (Option.bind_some _ _).symm.trans H; rw [hy110]; with_reducible exact H2_) | (have H2_ := (Option.bind_some _ _).symm.trans H; with_reducible exact H2_) | with_reducible exact H | (rw [hy110]; exact H) | exact H
              have Ny110 := Aside0.mk hy110
              clear hy110
              have H' := Aside0.mk H
              clear H
              go_wp2_with (first | ((with_reducible refine gate_callee (f := 14) rfl ?_); refine goesL_ (some 20) rfl rfl Try.func14 (by kernel_rfl) rfl #[.string a0] rfl (by (try simp only [List.map_toArray, List.map_cons, List.map_nil]); first | done | rfl | (simp only [List.length_drop, List.length_take]; rfl)) ?_; (with_reducible refine (impl_RawText.calls a0 t107 _ A11.out).mono ?_); rintro e w' ⟨rfl, ⟨nd, rfl⟩⟩; refine ⟨_, rfl, ?_⟩) | ((with_reducible refine gate_callee (f := 18) rfl ?_); refine goesL_ (some 22) rfl rfl Try.func18 (by kernel_rfl) rfl #[.string a0] rfl (by (try simp only [List.map_toArray, List.map_cons, List.map_nil]); first | done | rfl | (simp only [List.length_drop, List.length_take]; rfl)) ?_; (with_reducible refine (impl_Block.calls a0 true _ A12.out).mono ?_); rintro e w' ⟨rfl, ⟨nd, rfl⟩⟩; refine ⟨_, rfl, ?_⟩) | (go_at_call 16; (with_reducible refine (impl_Void.calls a0 t109 _ A14.out).mono ?_); rintro e w' ⟨rfl, ⟨nd, rfl⟩⟩) | ((with_reducible refine gate_dst (N := 28) rfl ?_); refine Kd.R_lit Kd.bool _ 4 ?hg (N := 28) ?hd (xs := ([t107, !t109] : List Bool)) (inner := [.bool t107, .bool (!t109)]) (ok := fun _ => True) (okp := fun _ => True) ?hr ?hp (fun _ hk => hk) trivial (Below.refl _ _) (Nat.le_refl _) (by simp) ?_; (case hd => rfl); (case hg => rfl); (case hr => first | (go_simp; done) | (go_simp; rfl)); (case hp => exact (Reps.one (show Kd.M Kd.bool _ _ _ t107 [.bool t107] from rfl) (Reps.one (show Kd.M Kd.bool _ _ _ (!t109) [.bool (!t109)] from rfl) (Reps.none _ _)))); intro v111 w15 ho16 hb hg_ hnew_; clear hg_ hnew_; (first | rw [← Ny110.out] at ho16 | (simp only [Int.reduceToNat] at ho16; rw [← Ny110.out] at ho16)); have n0_ := Aside0.mk (Kd.R_lower ho16 (below_size (by repeat (first | (with_reducible first | exact HB.out | apply below_alloc | apply pw_below_drewN | apply below_drew1) | exact HB.out)))); have n1_ := Aside0.mk (below_step (by repeat (first | (with_reducible first | exact HB.out | apply below_alloc | apply pw_below_drewN | apply below_drew1) | exact HB.out)) hb); clear HB; have HO112 := n0_; have HB := n1_; clear n0_ n1_; clear hb ho16; obtain ⟨Ao17, co17, eo17⟩ := Kd.R_slice HO112.out; subst eo17))
              go_meet
              case rel => exact ⟨_, (y110), ((y110.length : Int)), (0), (by first | rfl | (simp; done) | (simp [*]; done)), (by first | rfl | (simp; done) | (simp [*]; done)), H', ⟨by have := HJ2.out; first | omega | exact Nat.le_refl _⟩, ⟨by (with_reducible repeat (first | apply Kd.R_alloc | apply Kd.R_drewN | apply Kd.R_drew)); exact HO112.out⟩, ⟨by repeat (first | (with_reducible first | exact HB.out | apply below_alloc | apply pw_below_drewN | apply below_drew1) | exact HB.out)⟩⟩
            · replace c13 := Bool.eq_false_iff.mpr c13
              subst c13
              have H1 : ((some (([t107, false] : List Bool) : List Bool)).bind fun y113 => (laws_FnVoidBlocks.j1 kj2 a0 0 y113 (y113.length : Int) 0)) = some r := by rw [if_neg (show ¬ (false = true) by decide)] at H; exact H
              clear H
              have H := H1
              clear H1
              obtain ⟨y113, hy113⟩ : ∃ y_ : List Bool, y_ = (([t107, false] : List Bool)) := ⟨_, rfl⟩
              replace H : (laws_FnVoidBlocks.j1 kj2 a0 0 y113 (y113.length : Int) 0) = some r := by first | (rw [hy113]; with_reducible exact H) | (have H2_ := (Option.bind_some _ _).symm.trans H; rw [hy113]; with_reducible exact H2_) | (have H2_ := (Option.bind_some _ _).symm.trans H; with_reducible exact H2_) | with_reducible exact H | (rw [hy113]; exact H) | exact H
              have Ny113 := Aside0.mk hy113
              clear hy113
              have H' := Aside0.mk H
              clear H
              go_wp2_with (first | ((with_reducible refine gate_callee (f := 14) rfl ?_); refine goesL_ (some 20) rfl rfl Try.func14 (by kernel_rfl) rfl #[.string a0] rfl (by (try simp only [List.map_toArray, List.map_cons, List.map_nil]); first | done | rfl | (simp only [List.length_drop, List.length_take]; rfl)) ?_; (with_reducible refine (impl_RawText.calls a0 t107 _ A11.out).mono ?_); rintro e w' ⟨rfl, ⟨nd, rfl⟩⟩; refine ⟨_, rfl, ?_⟩) | ((with_reducible refine gate_callee (f := 18) rfl ?_); refine goesL_ (some 22) rfl rfl Try.func18 (by kernel_rfl) rfl #[.string a0] rfl (by (try simp only [List.map_toArray, List.map_cons, List.map_nil]); first | done | rfl | (simp only [List.length_drop, List.length_take]; rfl)) ?_; (with_reducible refine (impl_Block.calls a0 false _ A12.out).mono ?_); rintro e w' ⟨rfl, ⟨nd, rfl⟩⟩; refine ⟨_, rfl, ?_⟩) | ((with_reducible refine gate_dst (N := 28) rfl ?_); refine Kd.R_lit Kd.bool _ 4 ?hg (N := 28) ?hd (xs := ([t107, false] : List Bool)) (inner := [.bool t107, .bool false]) (ok := fun _ => True) (okp := fun _ => True) ?hr ?hp (fun _ hk => hk) trivial (Below.refl _ _) (Nat.le_refl _) (by simp) ?_; (case hd => rfl); (case hg => rfl); (case hr => first | (go_simp; done) | (go_simp; rfl)); (case hp => exact (Reps.one (show Kd.M Kd.bool _ _ _ t107 [.bool t107] from rfl) (Reps.one (show Kd.M Kd.bool _ _ _ false [.bool false] from rfl) (Reps.none _ _)))); intro v114 w18 ho19 hb hg_ hnew_; clear hg_ hnew_; (first | rw [← Ny113.out] at ho19 | (simp only [Int.reduceToNat] at ho19; rw [← Ny113.out] at ho19)); have n0_ := Aside0.mk (Kd.R_lower ho19 (below_size (by repeat (first | (with_reducible first | exact HB.out | apply below_alloc | apply pw_below_drewN | apply below_drew1) | exact HB.out)))); have n1_ := Aside0.mk (below_step (by repeat (first | (with_reducible first | exact HB.out | apply below_alloc | apply pw_below_drewN | apply below_drew1) | exact HB.out)) hb); clear HB; have HO115 := n0_; have HB := n1_; clear n0_ n1_; clear hb ho19; obtain ⟨Ao20, co20, eo20⟩ := Kd.R_slice HO115.out; subst eo20))
              go_meet
              case rel => exact ⟨_, (y113), ((y113.length : Int)), (0), (by first | rfl | (simp; done) | (simp [*]; done)), (by first | rfl | (simp; done) | (simp [*]; done)), H', ⟨by have := HJ2.out; first | omega | exact Nat.le_refl _⟩, ⟨by (with_reducible repeat (first | apply Kd.R_alloc | apply Kd.R_drewN | apply Kd.R_drew)); exact HO115.out⟩, ⟨by repeat (first | (with_reducible first | exact HB.out | apply below_alloc | apply pw_below_drewN | apply below_drew1) | exact HB.out)⟩⟩
          case rest =>
            clear HC10
            try clear c1
            try clear c2
            try clear c2b0
            try clear c2b1
            try clear p2
            try clear c5
            try clear c6
            try clear c7
            try clear c9
            try clear c13
            try clear c14
            try clear c16
            try clear c18
            try clear p2
            obtain ⟨kq, x28_9, x29_9, x30_9, rfl, rfl, HA, HJ9, HO_28, HB⟩ := hcut
            cases kq with
            | zero => exact absurd HA.out (by simp [laws_FnVoidBlocks.j1])
            | succ kj9 =>
              have H := HA.out
              clear HA
              simp only [laws_FnVoidBlocks.j1] at H
              have H' := Aside0.mk H
              clear H
              go_wp2
              go_loopg [3, 30] kj9 (fun kq v3 v30 w' => ∃ (x3_3 : Int) (x30_3 : Int), v3 = .int .i64 x3_3 ∧ v30 = .int .i64 x30_3 ∧ Aside0 (laws_FnVoidBlocks.l0 kq a0 x3_3 x28_9 x29_9 x30_3 = some r) ∧ Aside0 (kq ≤ kj9) ∧ Aside0 (Kd.R Kd.bool 4 w' w.heap.size (fun _ => True) u28 x28_9) ∧ Aside0 (Below w.heap.size w w'))
              case atStart => exact ⟨(0), (x30_9), (by first | rfl | (simp; done) | (simp [*]; done)), (by first | rfl | (simp; done) | (simp [*]; done)), H', ⟨Nat.le_refl _⟩, ⟨by (with_reducible repeat (first | apply Kd.R_alloc | apply Kd.R_drewN | apply Kd.R_drew)); exact HO_28.out⟩, ⟨by repeat (first | (with_reducible first | exact HB.out | apply below_alloc | apply pw_below_drewN | apply below_drew1) | exact HB.out)⟩⟩
              case round =>
                clear H'
                try clear c1
                try clear c2
                try clear c2b0
                try clear c2b1
                try clear p2
                try clear c5
                try clear c6
                try clear c7
                try clear c9
                try clear c13
                try clear c14
                try clear c16
                try clear c18
                try clear p2
                obtain ⟨x3_3, x30_3, rfl, rfl, HA, HK3, HO_28, HB⟩ := hrel
                cases gk with
                | zero => exact absurd HA.out (by simp [laws_FnVoidBlocks.l0])
                | succ k3 =>
                  have H := HA.out
                  clear HA
                  simp only [laws_FnVoidBlocks.l0] at H
                  by_cases c21 : x30_3 < x29_9
                  · rw [if_pos c21] at H
                    have c21b0 : decide (x30_3 < x29_9) = true := decide_eq_true c21
                    clear c21
                    by_cases c22 : 0 ≤ x30_3
                    · rw [if_pos c22] at H
                      have c22b0 : decide (0 ≤ x30_3) = true := decide_eq_true c22
                      clear c22
                      by_cases c23 : x30_3 < (x28_9.length : Int)
                      · rw [if_pos c23] at H
                        have c23b0 : decide (x30_3 < (x28_9.length : Int)) = true := decide_eq_true c23
                        clear c23
                        obtain ⟨bq24, hbq24⟩ : ∃ b_ : Bool, b_ = (rdOf false x28_9 x30_3) := ⟨_, rfl⟩
                        replace H : (if bq24 = true then (laws_FnVoidBlocks.l0 k3 a0 (wrap64 (x3_3 + 1)) x28_9 x29_9 (wrap64 (x30_3 + 1))) else (laws_FnVoidBlocks.l0 k3 a0 x3_3 x28_9 x29_9 (wrap64 (x30_3 + 1)))) = some r := by rw [← hbq24] at H; exact H
                        have Nbq24 := Aside0.mk hbq24
                        clear hbq24
                        by_cases c25 : bq24 = true
                        · subst c25
                          have H1 : (laws_FnVoidBlocks.l0 k3 a0 (wrap64 (x3_3 + 1)) x28_9 x29_9 (wrap64 (x30_3 + 1))) = some r := by rw [if_pos rfl] at H; exact H
                          clear H
                          have H := H1
                          clear H1
                          have H' := Aside0.mk H
                          clear H
                          obtain ⟨Ao26, co26, eo26⟩ := Kd.R_slice HO_28.out
                          subst eo26
                          have p116 : 0 ≤ (x30_3 : Int) := of_decide_eq_true (by first | (with_reducible assumption) | assumption)
                          have q116 : x30_3 < (x28_9.length : Int) := of_decide_eq_true (by first | (with_reducible assumption) | assumption)
                          obtain ⟨ad116, e116, hx116_0⟩ := Kd.at_bool (Kd.R_reads' HO_28.out).2.2 x30_3 p116 q116
                          (try rw [← Nbq24.out] at hx116_0)
                          cases e116
                          replace p116 := eq_true p116
                          replace q116 := eq_true q116
                          go_wp2
                          go_roundg k3
                          case measure => have := HJ2.out; have := HJ9.out; have := HK3.out; omega
                          case rel => exact ⟨(wrap64 (x3_3 + 1)), (wrap64 (x30_3 + 1)), (by first | rfl | (simp; done) | (simp [*]; done)), (by first | rfl | (simp; done) | (simp [*]; done)), H', ⟨by have := HJ2.out; have := HJ9.out; have := HK3.out; omega⟩, ⟨by (with_reducible repeat (first | apply Kd.R_alloc | apply Kd.R_drewN | apply Kd.R_drew)); exact HO_28.out⟩, ⟨by repeat (first | (with_reducible first | exact HB.out | apply below_alloc | apply pw_below_drewN | apply below_drew1) | exact HB.out)⟩⟩
                        · replace c25 := Bool.eq_false_iff.mpr c25
                          subst c25
                          have H1 : (laws_FnVoidBlocks.l0 k3 a0 x3_3 x28_9 x29_9 (wrap64 (x30_3 + 1))) = some r := by rw [if_neg (show ¬ (false = true) by decide)] at H; exact H
                          clear H
                          have H := H1
                          clear H1
                          have H' := Aside0.mk H
                          clear H
                          obtain ⟨Ao27, co27, eo27⟩ := Kd.R_slice HO_28.out
                          subst eo27
                          have p116 : 0 ≤ (x30_3 : Int) := of_decide_eq_true (by first | (with_reducible assumption) | assumption)
                          have q116 : x30_3 < (x28_9.length : Int) := of_decide_eq_true (by first | (with_reducible assumption) | assumption)
                          obtain ⟨ad116, e116, hx116_0⟩ := Kd.at_bool (Kd.R_reads' HO_28.out).2.2 x30_3 p116 q116
                          (try rw [← Nbq24.out] at hx116_0)
                          cases e116
                          replace p116 := eq_true p116
                          replace q116 := eq_true q116
                          go_wp2
                          go_roundg k3
                          case measure => have := HJ2.out; have := HJ9.out; have := HK3.out; omega
                          case rel => exact ⟨(x3_3), (wrap64 (x30_3 + 1)), (by first | rfl | (simp; done) | (simp [*]; done)), (by first | rfl | (simp; done) | (simp [*]; done)), H', ⟨by have := HJ2.out; have := HJ9.out; have := HK3.out; omega⟩, ⟨by (with_reducible repeat (first | apply Kd.R_alloc | apply Kd.R_drewN | apply Kd.R_drew)); exact HO_28.out⟩, ⟨by repeat (first | (with_reducible first | exact HB.out | apply below_alloc | apply pw_below_drewN | apply below_drew1) | exact HB.out)⟩⟩
                      · rw [if_neg c23] at H
                        exact absurd H (by simp)
                    · rw [if_neg c22] at H
                      exact absurd H (by simp)
                  · rw [if_neg c21] at H
                    have c21b0 : decide (x30_3 < x29_9) = false := decide_eq_false c21
                    clear c21
                    by_cases c28 : x3_3 ≤ 1
                    · rw [if_pos c28] at H
                      have c28b0 : decide (x3_3 ≤ 1) = true := decide_eq_true c28
                      clear c28
                      replace H := Option.bind_eq_some_iff.mp H
                      obtain ⟨t117, A290, H⟩ := H
                      replace H : (if t117 = true then ((impl_Void.f a0).bind fun t118 => (some (!t118))) else (some (!false))) = some r := H
                      have A29 := Aside0.mk A290
                      clear A290
                      by_cases c30 : t117 = true
                      · subst c30
                        have H1 : ((impl_Void.f a0).bind fun t118 => (some (!t118))) = some r := by rw [if_pos rfl] at H; exact H
                        clear H
                        have H := H1
                        clear H1
                        replace H := Option.bind_eq_some_iff.mp H
                        obtain ⟨t118, A310, H⟩ := H
                        replace H : (some (!t118)) = some r := H
                        have A31 := Aside0.mk A310
                        clear A310
                        obtain rfl := Option.some.inj H
                        go_wp2_with (first | (go_at_call 14; (with_reducible refine (impl_RawText.calls a0 true _ A29.out).mono ?_); rintro e w' ⟨rfl, ⟨nd, rfl⟩⟩) | (go_at_call 16; (with_reducible refine (impl_Void.calls a0 t118 _ A31.out).mono ?_); rintro e w' ⟨rfl, ⟨nd, rfl⟩⟩))
                        go_ret
                        exact ⟨by first | rfl | (simp [errW_none, errW_some] <;> rfl) | (simp [*, errW_none, errW_some] <;> rfl), by repeat (first | (with_reducible first | exact HB.out | apply below_alloc | apply pw_below_drewN | apply below_drew1) | exact HB.out)⟩
                      · replace c30 := Bool.eq_false_iff.mpr c30
                        subst c30
                        have H1 : (some (!false)) = some r := by rw [if_neg (show ¬ (false = true) by decide)] at H; exact H
                        clear H
                        have H := H1
                        clear H1
                        obtain rfl := Option.some.inj H
                        go_wp2_with (first | (go_at_call 14; (with_reducible refine (impl_RawText.calls a0 false _ A29.out).mono ?_); rintro e w' ⟨rfl, ⟨nd, rfl⟩⟩))
                        go_ret
                        exact ⟨by first | rfl | (simp [errW_none, errW_some] <;> rfl) | (simp [*, errW_none, errW_some] <;> rfl), by repeat (first | (with_reducible first | exact HB.out | apply below_alloc | apply pw_below_drewN | apply below_drew1) | exact HB.out)⟩
                    · rw [if_neg c28] at H
                      have c28b0 : decide (x3_3 ≤ 1) = false := decide_eq_false c28
                      clear c28
                      obtain rfl := Option.some.inj H
                      go_wp2
                      go_ret
                      exact ⟨by first | rfl | (simp [errW_none, errW_some] <;> rfl) | (simp [*, errW_none, errW_some] <;> rfl), by repeat (first | (with_reducible first | exact HB.out | apply below_alloc | apply pw_below_drewN | apply below_drew1) | exact HB.out)⟩

/-- THE ONE PURE STATEMENT of laws_FnVoidBlocks: yours. -/
def laws_FnVoidBlocks.Pure : Prop := ∀ (a0 : ByteArray), a0.size ≤ 140737488351232 → ∃ k, laws_FnVoidBlocks.f k a0 = some true
theorem laws_FnVoidBlocks.walk (P : laws_FnVoidBlocks.Pure) (a0 : ByteArray) (w : World) (w0 : a0.size ≤ 140737488351232) :
    Calls Try.prog 6 #[.string a0] w fun e w' => e = .returned (.bool true) ∧ Below w.heap.size w w' := by
  obtain ⟨k, h⟩ := P a0 w0
  refine (laws_FnVoidBlocks.calls k a0 true w h).mono ?_
  rintro e w' ⟨rfl, hd⟩
  exact ⟨rfl, hd⟩

end Go.Proofs.Ytelijbnnhgmklaa.PFnVoidBlocks
