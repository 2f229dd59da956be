-- PRINTED BY print.sh 35421559b90ae4d0a3588c463048766b98c2df88dd9212a6774a882060cdf62d: not written by this session
import Derived.Test.YtelijbnnhgmklaaPFnElementsx0
namespace Go.Proofs.Ytelijbnnhgmklaa.PFnElements
open Go.RowKit Go.Proofs.YtelijbnnhgmklaaW.PrintWords Go.Proofs.YtelijbnnhgmklaaW.PrintLast Go.Proofs.YtelijbnnhgmklaaW.PrintMore
attribute [local go_sem] max2_int min2_int max_two min_two max_three min_three max_four min_four   -- for this text's walks alone
set_option linter.unusedVariables false
set_option linter.unusedSimpArgs false

/-! ### hhtml_IsRawTextElement: function 28 -/
def hhtml_IsRawTextElement.f (a0 : ByteArray) : Option (Bool) := if a0.toList = ([115, 99, 114, 105, 112, 116] : List UInt8) then (some true) else (if a0.toList = ([115, 116, 121, 108, 101] : List UInt8) then (some true) else (if a0.toList = ([116, 101, 120, 116, 97, 114, 101, 97] : List UInt8) then (some true) else (if a0.toList = ([116, 105, 116, 108, 101] : List UInt8) then (some true) else (if a0.toList = ([105, 102, 114, 97, 109, 101] : List UInt8) then (some true) else (if a0.toList = ([120, 109, 112] : List UInt8) then (some true) else (if a0.toList = ([110, 111, 101, 109, 98, 101, 100] : List UInt8) then (some true) else (if a0.toList = ([110, 111, 102, 114, 97, 109, 101, 115] : List UInt8) then (some true) else (some false))))))))
set_option maxHeartbeats 8000000 in
set_option maxRecDepth 100000 in
theorem hhtml_IsRawTextElement.calls (a0 : ByteArray) (r : Bool) (w : World) (h : hhtml_IsRawTextElement.f a0 = some r) :
    Calls Try.prog 28 #[.string a0] w fun e w' => e = .returned (.bool r) ∧ Drawn0 w w' := by
  have H : (if a0.toList = ([115, 99, 114, 105, 112, 116] : List UInt8) then (some true) else (if a0.toList = ([115, 116, 121, 108, 101] : List UInt8) then (some true) else (if a0.toList = ([116, 101, 120, 116, 97, 114, 101, 97] : List UInt8) then (some true) else (if a0.toList = ([116, 105, 116, 108, 101] : List UInt8) then (some true) else (if a0.toList = ([105, 102, 114, 97, 109, 101] : List UInt8) then (some true) else (if a0.toList = ([120, 109, 112] : List UInt8) then (some true) else (if a0.toList = ([110, 111, 101, 109, 98, 101, 100] : List UInt8) then (some true) else (if a0.toList = ([110, 111, 102, 114, 97, 109, 101, 115] : List UInt8) then (some true) else (some false))))))))) = some r := h
  clear h
  by_cases c2 : a0.toList = ([115, 99, 114, 105, 112, 116] : List UInt8)
  · rw [if_pos c2] at H
    have c2b0 : (a0.toList == ([115, 99, 114, 105, 112, 116] : List UInt8)) = true := beq_iff_eq.mpr c2
    have c2b1 : (a0.toList != ([115, 99, 114, 105, 112, 116] : List UInt8)) = false := bne_eq_false_iff_eq.mpr c2
    clear c2
    obtain rfl := Option.some.inj H
    go_enter Try.func28, Try.ntmps28
    go_wp2
    go_ret
    exact ⟨by first | rfl | (simp; done) | (simp [*]; done), by repeat (first | exact Drawn0.refl _ | apply Drawn0.step)⟩
  · rw [if_neg c2] at H
    have c2b0 : (a0.toList == ([115, 99, 114, 105, 112, 116] : List UInt8)) = false := beq_eq_false_iff_ne.mpr c2
    have c2b1 : (a0.toList != ([115, 99, 114, 105, 112, 116] : List UInt8)) = true := bne_iff_ne.mpr c2
    by_cases c3 : a0.toList = ([115, 116, 121, 108, 101] : List UInt8)
    · rw [if_pos c3] at H
      have c3b0 : (a0.toList == ([115, 116, 121, 108, 101] : List UInt8)) = true := beq_iff_eq.mpr c3
      have c3b1 : (a0.toList != ([115, 116, 121, 108, 101] : List UInt8)) = false := bne_eq_false_iff_eq.mpr c3
      clear c3
      obtain rfl := Option.some.inj H
      go_enter Try.func28, Try.ntmps28
      go_wp2
      go_ret
      exact ⟨by first | rfl | (simp; done) | (simp [*]; done), by repeat (first | exact Drawn0.refl _ | apply Drawn0.step)⟩
    · rw [if_neg c3] at H
      have c3b0 : (a0.toList == ([115, 116, 121, 108, 101] : List UInt8)) = false := beq_eq_false_iff_ne.mpr c3
      have c3b1 : (a0.toList != ([115, 116, 121, 108, 101] : List UInt8)) = true := bne_iff_ne.mpr c3
      by_cases c4 : a0.toList = ([116, 101, 120, 116, 97, 114, 101, 97] : List UInt8)
      · rw [if_pos c4] at H
        have c4b0 : (a0.toList == ([116, 101, 120, 116, 97, 114, 101, 97] : List UInt8)) = true := beq_iff_eq.mpr c4
        have c4b1 : (a0.toList != ([116, 101, 120, 116, 97, 114, 101, 97] : List UInt8)) = false := bne_eq_false_iff_eq.mpr c4
        clear c4
        obtain rfl := Option.some.inj H
        go_enter Try.func28, Try.ntmps28
        go_wp2
        go_ret
        exact ⟨by first | rfl | (simp; done) | (simp [*]; done), by repeat (first | exact Drawn0.refl _ | apply Drawn0.step)⟩
      · rw [if_neg c4] at H
        have c4b0 : (a0.toList == ([116, 101, 120, 116, 97, 114, 101, 97] : List UInt8)) = false := beq_eq_false_iff_ne.mpr c4
        have c4b1 : (a0.toList != ([116, 101, 120, 116, 97, 114, 101, 97] : List UInt8)) = true := bne_iff_ne.mpr c4
        by_cases c5 : a0.toList = ([116, 105, 116, 108, 101] : List UInt8)
        · rw [if_pos c5] at H
          have c5b0 : (a0.toList == ([116, 105, 116, 108, 101] : List UInt8)) = true := beq_iff_eq.mpr c5
          have c5b1 : (a0.toList != ([116, 105, 116, 108, 101] : List UInt8)) = false := bne_eq_false_iff_eq.mpr c5
          clear c5
          obtain rfl := Option.some.inj H
          go_enter Try.func28, Try.ntmps28
          go_wp2
          go_ret
          exact ⟨by first | rfl | (simp; done) | (simp [*]; done), by repeat (first | exact Drawn0.refl _ | apply Drawn0.step)⟩
        · rw [if_neg c5] at H
          have c5b0 : (a0.toList == ([116, 105, 116, 108, 101] : List UInt8)) = false := beq_eq_false_iff_ne.mpr c5
          have c5b1 : (a0.toList != ([116, 105, 116, 108, 101] : List UInt8)) = true := bne_iff_ne.mpr c5
          by_cases c6 : a0.toList = ([105, 102, 114, 97, 109, 101] : List UInt8)
          · rw [if_pos c6] at H
            have c6b0 : (a0.toList == ([105, 102, 114, 97, 109, 101] : List UInt8)) = true := beq_iff_eq.mpr c6
            have c6b1 : (a0.toList != ([105, 102, 114, 97, 109, 101] : List UInt8)) = false := bne_eq_false_iff_eq.mpr c6
            clear c6
            obtain rfl := Option.some.inj H
            go_enter Try.func28, Try.ntmps28
            go_wp2
            go_ret
            exact ⟨by first | rfl | (simp; done) | (simp [*]; done), by repeat (first | exact Drawn0.refl _ | apply Drawn0.step)⟩
          · rw [if_neg c6] at H
            have c6b0 : (a0.toList == ([105, 102, 114, 97, 109, 101] : List UInt8)) = false := beq_eq_false_iff_ne.mpr c6
            have c6b1 : (a0.toList != ([105, 102, 114, 97, 109, 101] : List UInt8)) = true := bne_iff_ne.mpr c6
            by_cases c7 : a0.toList = ([120, 109, 112] : List UInt8)
            · rw [if_pos c7] at H
              have c7b0 : (a0.toList == ([120, 109, 112] : List UInt8)) = true := beq_iff_eq.mpr c7
              have c7b1 : (a0.toList != ([120, 109, 112] : List UInt8)) = false := bne_eq_false_iff_eq.mpr c7
              clear c7
              obtain rfl := Option.some.inj H
              go_enter Try.func28, Try.ntmps28
              go_wp2
              go_ret
              exact ⟨by first | rfl | (simp; done) | (simp [*]; done), by repeat (first | exact Drawn0.refl _ | apply Drawn0.step)⟩
            · rw [if_neg c7] at H
              have c7b0 : (a0.toList == ([120, 109, 112] : List UInt8)) = false := beq_eq_false_iff_ne.mpr c7
              have c7b1 : (a0.toList != ([120, 109, 112] : List UInt8)) = true := bne_iff_ne.mpr c7
              by_cases c8 : a0.toList = ([110, 111, 101, 109, 98, 101, 100] : List UInt8)
              · rw [if_pos c8] at H
                have c8b0 : (a0.toList == ([110, 111, 101, 109, 98, 101, 100] : List UInt8)) = true := beq_iff_eq.mpr c8
                have c8b1 : (a0.toList != ([110, 111, 101, 109, 98, 101, 100] : List UInt8)) = false := bne_eq_false_iff_eq.mpr c8
                clear c8
                obtain rfl := Option.some.inj H
                go_enter Try.func28, Try.ntmps28
                go_wp2
                go_ret
                exact ⟨by first | rfl | (simp; done) | (simp [*]; done), by repeat (first | exact Drawn0.refl _ | apply Drawn0.step)⟩
              · rw [if_neg c8] at H
                have c8b0 : (a0.toList == ([110, 111, 101, 109, 98, 101, 100] : List UInt8)) = false := beq_eq_false_iff_ne.mpr c8
                have c8b1 : (a0.toList != ([110, 111, 101, 109, 98, 101, 100] : List UInt8)) = true := bne_iff_ne.mpr c8
                by_cases c9 : a0.toList = ([110, 111, 102, 114, 97, 109, 101, 115] : List UInt8)
                · rw [if_pos c9] at H
                  have c9b0 : (a0.toList == ([110, 111, 102, 114, 97, 109, 101, 115] : List UInt8)) = true := beq_iff_eq.mpr c9
                  have c9b1 : (a0.toList != ([110, 111, 102, 114, 97, 109, 101, 115] : List UInt8)) = false := bne_eq_false_iff_eq.mpr c9
                  clear c9
                  obtain rfl := Option.some.inj H
                  go_enter Try.func28, Try.ntmps28
                  go_wp2
                  go_ret
                  exact ⟨by first | rfl | (simp; done) | (simp [*]; done), by repeat (first | exact Drawn0.refl _ | apply Drawn0.step)⟩
                · rw [if_neg c9] at H
                  have c9b0 : (a0.toList == ([110, 111, 102, 114, 97, 109, 101, 115] : List UInt8)) = false := beq_eq_false_iff_ne.mpr c9
                  have c9b1 : (a0.toList != ([110, 111, 102, 114, 97, 109, 101, 115] : List UInt8)) = true := bne_iff_ne.mpr c9
                  obtain rfl := Option.some.inj H
                  go_enter Try.func28, Try.ntmps28
                  go_wp2
                  go_ret
                  exact ⟨by first | rfl | (simp; done) | (simp [*]; done), by repeat (first | exact Drawn0.refl _ | apply Drawn0.step)⟩

/-! ### impl_RawText: function 14 -/
def impl_RawText.f (a0 : ByteArray) : Option (Bool) := (hhtml_IsRawTextElement.f a0).bind fun t101 => (some t101)
set_option maxHeartbeats 8000000 in
set_option maxRecDepth 100000 in
theorem impl_RawText.calls (a0 : ByteArray) (r : Bool) (w : World) (h : impl_RawText.f a0 = some r) :
    Calls Try.prog 14 #[.string a0] w fun e w' => e = .returned (.bool r) ∧ Drawn0 w w' := by
  have H : ((hhtml_IsRawTextElement.f a0).bind fun t101 => (some t101)) = some r := h
  clear h
  replace H := Option.bind_eq_some_iff.mp H
  obtain ⟨t101, A20, H⟩ := H
  replace H : (some t101) = some r := H
  have A2 := Aside0.mk A20
  clear A20
  obtain rfl := Option.some.inj H
  go_enter Try.func14, Try.ntmps14
  go_wp2_with (first | ((with_reducible refine gate_callee (f := 28) rfl ?_); refine goesL_ (some 4) rfl rfl Try.func28 (by kernel_rfl) rfl #[.string a0] rfl (by (try simp only [List.map_toArray, List.map_cons, List.map_nil]); first | done | rfl | (simp only [List.length_drop, List.length_take]; rfl)) ?_; (with_reducible refine (hhtml_IsRawTextElement.calls a0 t101 _ A2.out).mono ?_); rintro e w' ⟨rfl, ⟨nd, rfl⟩⟩; refine ⟨_, rfl, ?_⟩))
  go_ret
  exact ⟨by first | rfl | (simp; done) | (simp [*]; done), by repeat (first | exact Drawn0.refl _ | apply Drawn0.step)⟩

/-! ### spec_tagListed: function 29 -/
def spec_tagListed.l0 : Nat → ByteArray → List ByteArray → Int → Option (Bool)
  | 0, _, _, _ => none
  | k + 1, x0, x1, x5 => if x5 < (x1.length : Int) then (if 0 ≤ x5 then (if (rdOf ByteArray.empty x1 x5).toList = x0.toList then (some true) else (spec_tagListed.l0 k x0 x1 (wrap64 (x5 + 1)))) else (none)) else (some false)
def spec_tagListed.f (k : Nat) (a0 : ByteArray) (l1 : List ByteArray) : Option (Bool) := spec_tagListed.l0 k a0 l1 0
theorem spec_tagListed.mono_l : ∀ k, (∀ y0 y1 y2, LeO (spec_tagListed.l0 k y0 y1 y2) (spec_tagListed.l0 (k + 1) y0 y1 y2))
  | 0 => fun _ _ _ r h => by simp [spec_tagListed.l0] at h
  | k + 1 => by
    have ih0 := spec_tagListed.mono_l k
    · intro y0 y1 y2
      unfold spec_tagListed.l0
      repeat' first
      | (with_reducible exact ih0 _ _ _)
      | (with_reducible exact LeO.refl _)
      | (with_reducible exact LeO.none _)
      | (with_reducible refine LeO.ite ?_ ?_)
      | (with_reducible refine LeO.bind ?_ (fun _ => ?_))
      | exact ih0 _ _ _
      | exact LeO.none _
      | refine LeO.ite ?_ ?_
      | refine LeO.bind ?_ (fun _ => ?_)
theorem spec_tagListed.mono : ∀ a0 a1 k, LeO (spec_tagListed.f k a0 a1) (spec_tagListed.f (k + 1) a0 a1) := by
  intro a0 a1 k
  have ih0 := spec_tagListed.mono_l k
  unfold spec_tagListed.f
  repeat' first
      | (with_reducible exact ih0 _ _ _)
      | (with_reducible exact LeO.refl _)
      | (with_reducible exact LeO.none _)
      | (with_reducible refine LeO.ite ?_ ?_)
      | (with_reducible refine LeO.bind ?_ (fun _ => ?_))
      | exact ih0 _ _ _
      | exact LeO.none _
      | refine LeO.ite ?_ ?_
      | refine LeO.bind ?_ (fun _ => ?_)
set_option maxHeartbeats 8000000 in
set_option maxRecDepth 100000 in
theorem spec_tagListed.calls (k : Nat) (a0 : ByteArray) (A1 : Option Addr) (c1 : Nat) (l1 : List ByteArray) (r : Bool) (w : World) (hr1 : Kd.C Kd.string w A1 l1.length l1) (hc1 : l1.length ≤ c1) (h : spec_tagListed.f k a0 l1 = some r) :
    Calls Try.prog 29 #[.string a0, .slice A1 l1.length c1] w fun e w' => e = .returned (.bool r) ∧ Drawn0 w w' := by
  have HR1 := Aside0.mk hr1
  have HC1 := Aside0.mk hc1
  clear hr1 hc1
  have H : (spec_tagListed.l0 k a0 l1 0) = some r := h
  clear h
  have H' := Aside0.mk H
  clear H
  go_enter Try.func29, Try.ntmps29
  go_wp2
  go_loopg [5] k (fun kq v5 w' => ∃ (x5_1 : Int), v5 = .int .i64 x5_1 ∧ Aside0 (spec_tagListed.l0 kq a0 l1 x5_1 = some r) ∧ Aside0 (kq ≤ k) ∧ Drawn0 w w')
  case atStart => exact ⟨(0), (by first | rfl | (simp; done) | (simp [*]; done)), H', ⟨Nat.le_refl _⟩, by repeat (first | exact Drawn0.refl _ | apply Drawn0.step)⟩
  case round =>
    clear H'
    try clear c1
    try clear c2
    try clear p2
    obtain ⟨x5_1, rfl, HA, HK1, ⟨m1, rfl⟩⟩ := hrel
    cases gk with
    | zero => exact absurd HA.out (by simp [spec_tagListed.l0])
    | succ k1 =>
      have H := HA.out
      clear HA
      simp only [spec_tagListed.l0] at H
      by_cases c3 : x5_1 < (l1.length : Int)
      · rw [if_pos c3] at H
        have c3b0 : decide (x5_1 < (l1.length : Int)) = true := decide_eq_true c3
        clear c3
        by_cases c4 : 0 ≤ x5_1
        · rw [if_pos c4] at H
          have c4b0 : decide (0 ≤ x5_1) = true := decide_eq_true c4
          clear c4
          by_cases c5 : (rdOf ByteArray.empty l1 x5_1).toList = a0.toList
          · rw [if_pos c5] at H
            have c5b0 : ((rdOf ByteArray.empty l1 x5_1).toList == a0.toList) = true := beq_iff_eq.mpr c5
            have c5b1 : ((rdOf ByteArray.empty l1 x5_1).toList != a0.toList) = false := bne_eq_false_iff_eq.mpr c5
            clear c5
            obtain rfl := Option.some.inj H
            have p102 : 0 ≤ (x5_1 : Int) := of_decide_eq_true (by first | (with_reducible assumption) | assumption)
            have q102 : x5_1 < (l1.length : Int) := of_decide_eq_true (by first | (with_reducible assumption) | assumption)
            obtain ⟨ad102, e102, hx102_0⟩ := Kd.at_string HR1.out x5_1 p102 q102
            cases e102
            replace p102 := eq_true p102
            replace q102 := eq_true q102
            go_wp2
            go_ret
            exact ⟨by first | rfl | (simp; done) | (simp [*]; done), by repeat (first | exact Drawn0.refl _ | apply Drawn0.step)⟩
          · rw [if_neg c5] at H
            have c5b0 : ((rdOf ByteArray.empty l1 x5_1).toList == a0.toList) = false := beq_eq_false_iff_ne.mpr c5
            have c5b1 : ((rdOf ByteArray.empty l1 x5_1).toList != a0.toList) = true := bne_iff_ne.mpr c5
            have H' := Aside0.mk H
            clear H
            have p102 : 0 ≤ (x5_1 : Int) := of_decide_eq_true (by first | (with_reducible assumption) | assumption)
            have q102 : x5_1 < (l1.length : Int) := of_decide_eq_true (by first | (with_reducible assumption) | assumption)
            obtain ⟨ad102, e102, hx102_0⟩ := Kd.at_string HR1.out x5_1 p102 q102
            cases e102
            replace p102 := eq_true p102
            replace q102 := eq_true q102
            go_wp2
            go_roundg k1
            case measure => have := HK1.out; omega
            case rel => exact ⟨(wrap64 (x5_1 + 1)), (by first | rfl | (simp; done) | (simp [*]; done)), H', ⟨by have := HK1.out; omega⟩, by repeat (first | exact Drawn0.refl _ | apply Drawn0.step)⟩
        · rw [if_neg c4] at H
          exact absurd H (by simp)
      · rw [if_neg c3] at H
        have c3b0 : decide (x5_1 < (l1.length : Int)) = false := decide_eq_false c3
        clear c3
        obtain rfl := Option.some.inj H
        go_wp2
        go_ret
        exact ⟨by first | rfl | (simp; done) | (simp [*]; done), by repeat (first | exact Drawn0.refl _ | apply Drawn0.step)⟩

/-! ### spec_RawText: function 15 -/
def spec_RawText.f (k : Nat) (a0 : ByteArray) : Option (Bool) := (spec_tagListed.f k a0 (([(⟨#[115, 99, 114, 105, 112, 116]⟩ : ByteArray), (⟨#[115, 116, 121, 108, 101]⟩ : ByteArray), (⟨#[116, 101, 120, 116, 97, 114, 101, 97]⟩ : ByteArray), (⟨#[116, 105, 116, 108, 101]⟩ : ByteArray), (⟨#[105, 102, 114, 97, 109, 101]⟩ : ByteArray), (⟨#[120, 109, 112]⟩ : ByteArray), (⟨#[110, 111, 101, 109, 98, 101, 100]⟩ : ByteArray), (⟨#[110, 111, 102, 114, 97, 109, 101, 115]⟩ : ByteArray)] : List ByteArray))).bind fun t106 => (some t106)
theorem spec_RawText.mono : ∀ a0 k, LeO (spec_RawText.f k a0) (spec_RawText.f (k + 1) a0) := by
  intro a0 k
  unfold spec_RawText.f
  repeat' first
      | (with_reducible exact spec_tagListed.mono _ _ _)
      | (with_reducible exact LeO.refl _)
      | (with_reducible exact LeO.none _)
      | (with_reducible refine LeO.ite ?_ ?_)
      | (with_reducible refine LeO.bind ?_ (fun _ => ?_))
      | exact spec_tagListed.mono _ _ _
      | exact LeO.none _
      | refine LeO.ite ?_ ?_
      | refine LeO.bind ?_ (fun _ => ?_)
set_option maxHeartbeats 8000000 in
set_option maxRecDepth 100000 in
theorem spec_RawText.calls (k : Nat) (a0 : ByteArray) (r : Bool) (w : World) (h : spec_RawText.f k a0 = some r) :
    Calls Try.prog 15 #[.string a0] w fun e w' => e = .returned (.bool r) ∧ Below w.heap.size w w' := by
  have HB := Aside0.mk (Below.refl w.heap.size w)
  have H : ((spec_tagListed.f k a0 (([(⟨#[115, 99, 114, 105, 112, 116]⟩ : ByteArray), (⟨#[115, 116, 121, 108, 101]⟩ : ByteArray), (⟨#[116, 101, 120, 116, 97, 114, 101, 97]⟩ : ByteArray), (⟨#[116, 105, 116, 108, 101]⟩ : ByteArray), (⟨#[105, 102, 114, 97, 109, 101]⟩ : ByteArray), (⟨#[120, 109, 112]⟩ : ByteArray), (⟨#[110, 111, 101, 109, 98, 101, 100]⟩ : ByteArray), (⟨#[110, 111, 102, 114, 97, 109, 101, 115]⟩ : ByteArray)] : List ByteArray))).bind fun t106 => (some t106)) = some r := h
  clear h
  obtain ⟨y103, hy103⟩ : ∃ y_ : List ByteArray, y_ = (([(⟨#[115, 99, 114, 105, 112, 116]⟩ : ByteArray), (⟨#[115, 116, 121, 108, 101]⟩ : ByteArray), (⟨#[116, 101, 120, 116, 97, 114, 101, 97]⟩ : ByteArray), (⟨#[116, 105, 116, 108, 101]⟩ : ByteArray), (⟨#[105, 102, 114, 97, 109, 101]⟩ : ByteArray), (⟨#[120, 109, 112]⟩ : ByteArray), (⟨#[110, 111, 101, 109, 98, 101, 100]⟩ : ByteArray), (⟨#[110, 111, 102, 114, 97, 109, 101, 115]⟩ : ByteArray)] : List ByteArray)) := ⟨_, rfl⟩
  replace H : ((spec_tagListed.f k a0 y103).bind fun t106 => (some t106)) = some r := by first | (rw [hy103]; with_reducible exact H) | (have H2_ := (Option.bind_some _ _).symm.trans H; rw [hy103]; with_reducible exact H2_) | (have H2_ := (Option.bind_some _ _).symm.trans H; with_reducible exact H2_) | with_reducible exact H | (rw [hy103]; exact H) | exact H
  have Ny103 := Aside0.mk hy103
  clear hy103
  replace H := Option.bind_eq_some_iff.mp H
  obtain ⟨t106, A20, H⟩ := H
  replace H : (some t106) = some r := H
  have A2 := Aside0.mk A20
  clear A20
  obtain rfl := Option.some.inj H
  go_enter Try.func15, Try.ntmps15
  go_wp2_with (first | ((with_reducible refine gate_dst (N := 4) rfl ?_); refine Kd.R_lit Kd.string _ 9 ?hg (N := 4) ?hd (xs := ([(⟨#[115, 99, 114, 105, 112, 116]⟩ : ByteArray), (⟨#[115, 116, 121, 108, 101]⟩ : ByteArray), (⟨#[116, 101, 120, 116, 97, 114, 101, 97]⟩ : ByteArray), (⟨#[116, 105, 116, 108, 101]⟩ : ByteArray), (⟨#[105, 102, 114, 97, 109, 101]⟩ : ByteArray), (⟨#[120, 109, 112]⟩ : ByteArray), (⟨#[110, 111, 101, 109, 98, 101, 100]⟩ : ByteArray), (⟨#[110, 111, 102, 114, 97, 109, 101, 115]⟩ : ByteArray)] : List ByteArray)) (inner := [.string (⟨#[115, 99, 114, 105, 112, 116]⟩ : ByteArray), .string (⟨#[115, 116, 121, 108, 101]⟩ : ByteArray), .string (⟨#[116, 101, 120, 116, 97, 114, 101, 97]⟩ : ByteArray), .string (⟨#[116, 105, 116, 108, 101]⟩ : ByteArray), .string (⟨#[105, 102, 114, 97, 109, 101]⟩ : ByteArray), .string (⟨#[120, 109, 112]⟩ : ByteArray), .string (⟨#[110, 111, 101, 109, 98, 101, 100]⟩ : ByteArray), .string (⟨#[110, 111, 102, 114, 97, 109, 101, 115]⟩ : ByteArray)]) (ok := fun _ => True) (okp := fun _ => True) ?hr ?hp (fun _ hk => hk) trivial (Below.refl _ _) (Nat.le_refl _) (by simp) ?_; (case hd => rfl); (case hg => rfl); (case hr => first | (go_simp; done) | (go_simp; rfl)); (case hp => exact (Reps.one (show Kd.M Kd.string _ _ _ (⟨#[115, 99, 114, 105, 112, 116]⟩ : ByteArray) [.string (⟨#[115, 99, 114, 105, 112, 116]⟩ : ByteArray)] from rfl) (Reps.one (show Kd.M Kd.string _ _ _ (⟨#[115, 116, 121, 108, 101]⟩ : ByteArray) [.string (⟨#[115, 116, 121, 108, 101]⟩ : ByteArray)] from rfl) (Reps.one (show Kd.M Kd.string _ _ _ (⟨#[116, 101, 120, 116, 97, 114, 101, 97]⟩ : ByteArray) [.string (⟨#[116, 101, 120, 116, 97, 114, 101, 97]⟩ : ByteArray)] from rfl) (Reps.one (show Kd.M Kd.string _ _ _ (⟨#[116, 105, 116, 108, 101]⟩ : ByteArray) [.string (⟨#[116, 105, 116, 108, 101]⟩ : ByteArray)] from rfl) (Reps.one (show Kd.M Kd.string _ _ _ (⟨#[105, 102, 114, 97, 109, 101]⟩ : ByteArray) [.string (⟨#[105, 102, 114, 97, 109, 101]⟩ : ByteArray)] from rfl) (Reps.one (show Kd.M Kd.string _ _ _ (⟨#[120, 109, 112]⟩ : ByteArray) [.string (⟨#[120, 109, 112]⟩ : ByteArray)] from rfl) (Reps.one (show Kd.M Kd.string _ _ _ (⟨#[110, 111, 101, 109, 98, 101, 100]⟩ : ByteArray) [.string (⟨#[110, 111, 101, 109, 98, 101, 100]⟩ : ByteArray)] from rfl) (Reps.one (show Kd.M Kd.string _ _ _ (⟨#[110, 111, 102, 114, 97, 109, 101, 115]⟩ : ByteArray) [.string (⟨#[110, 111, 102, 114, 97, 109, 101, 115]⟩ : ByteArray)] from rfl) (Reps.none _ _)))))))))); intro v104 w3 ho4 hb hg_ hnew_; clear hg_ hnew_; (first | rw [← Ny103.out] at ho4 | (simp only [Int.reduceToNat] at ho4; rw [← Ny103.out] at ho4)); have n0_ := Aside0.mk (Kd.R_lower ho4 (below_size (by repeat (first | (with_reducible first | exact HB.out | apply below_alloc | apply pw_below_drewN | apply below_drew1) | exact HB.out)))); have n1_ := Aside0.mk (below_step (by repeat (first | (with_reducible first | exact HB.out | apply below_alloc | apply pw_below_drewN | apply below_drew1) | exact HB.out)) hb); clear HB; have HO105 := n0_; have HB := n1_; clear n0_ n1_; clear hb ho4; obtain ⟨Ao5, co5, eo5⟩ := Kd.R_slice HO105.out; subst eo5) | ((with_reducible refine gate_callee (f := 29) rfl ?_); refine goesL_ (some 5) rfl rfl Try.func29 (by kernel_rfl) rfl #[.string a0, .slice Ao5 y103.length co5] rfl (by (try simp only [List.map_toArray, List.map_cons, List.map_nil]); first | done | rfl | (simp only [List.length_drop, List.length_take]; rfl)) ?_; (with_reducible refine (spec_tagListed.calls k a0 _ _ y103 t106 _ ?side1 ?side2 A2.out).mono ?_); (case side1 => repeat (first | exact (Kd.R_reads' HO105.out).2.2 | (with_reducible refine Kd.C_alloc ?_ _) | (with_reducible refine Kd.C_drewN ?_ _) | (with_reducible refine Kd.C_drew ?_))); (case side2 => exact (Kd.R_reads' HO105.out).2.1); rintro e w' ⟨rfl, ⟨nd, rfl⟩⟩; refine ⟨_, rfl, ?_⟩))
  go_ret
  exact ⟨by first | rfl | (simp [errW_none, errW_some] <;> rfl) | (simp [*, errW_none, errW_some] <;> rfl), by repeat (first | (with_reducible first | exact HB.out | apply below_alloc | apply pw_below_drewN | apply below_drew1) | exact HB.out)⟩

/-! ### hhtml_IsVoidElement: function 30 -/
def hhtml_IsVoidElement.f (a0 : ByteArray) : Option (Bool) := if a0.toList = ([97, 114, 101, 97] : List UInt8) then (some true) else (if a0.toList = ([98, 97, 115, 101] : List UInt8) then (some true) else (if a0.toList = ([98, 114] : List UInt8) then (some true) else (if a0.toList = ([99, 111, 108] : List UInt8) then (some true) else (if a0.toList = ([101, 109, 98, 101, 100] : List UInt8) then (some true) else (if a0.toList = ([104, 114] : List UInt8) then (some true) else (if a0.toList = ([105, 109, 103] : List UInt8) then (some true) else (if a0.toList = ([105, 110, 112, 117, 116] : List UInt8) then (some true) else (if a0.toList = ([108, 105, 110, 107] : List UInt8) then (some true) else (if a0.toList = ([109, 101, 116, 97] : List UInt8) then (some true) else (if a0.toList = ([115, 111, 117, 114, 99, 101] : List UInt8) then (some true) else (if a0.toList = ([116, 114, 97, 99, 107] : List UInt8) then (some true) else (if a0.toList = ([119, 98, 114] : List UInt8) then (some true) else (some false)))))))))))))
set_option maxHeartbeats 8000000 in
set_option maxRecDepth 100000 in
theorem hhtml_IsVoidElement.calls (a0 : ByteArray) (r : Bool) (w : World) (h : hhtml_IsVoidElement.f a0 = some r) :
    Calls Try.prog 30 #[.string a0] w fun e w' => e = .returned (.bool r) ∧ Drawn0 w w' := by
  have H : (if a0.toList = ([97, 114, 101, 97] : List UInt8) then (some true) else (if a0.toList = ([98, 97, 115, 101] : List UInt8) then (some true) else (if a0.toList = ([98, 114] : List UInt8) then (some true) else (if a0.toList = ([99, 111, 108] : List UInt8) then (some true) else (if a0.toList = ([101, 109, 98, 101, 100] : List UInt8) then (some true) else (if a0.toList = ([104, 114] : List UInt8) then (some true) else (if a0.toList = ([105, 109, 103] : List UInt8) then (some true) else (if a0.toList = ([105, 110, 112, 117, 116] : List UInt8) then (some true) else (if a0.toList = ([108, 105, 110, 107] : List UInt8) then (some true) else (if a0.toList = ([109, 101, 116, 97] : List UInt8) then (some true) else (if a0.toList = ([115, 111, 117, 114, 99, 101] : List UInt8) then (some true) else (if a0.toList = ([116, 114, 97, 99, 107] : List UInt8) then (some true) else (if a0.toList = ([119, 98, 114] : List UInt8) then (some true) else (some false)))))))))))))) = some r := h
  clear h
  by_cases c2 : a0.toList = ([97, 114, 101, 97] : List UInt8)
  · rw [if_pos c2] at H
    have c2b0 : (a0.toList == ([97, 114, 101, 97] : List UInt8)) = true := beq_iff_eq.mpr c2
    have c2b1 : (a0.toList != ([97, 114, 101, 97] : List UInt8)) = false := bne_eq_false_iff_eq.mpr c2
    clear c2
    obtain rfl := Option.some.inj H
    go_enter Try.func30, Try.ntmps30
    go_wp2
    go_ret
    exact ⟨by first | rfl | (simp; done) | (simp [*]; done), by repeat (first | exact Drawn0.refl _ | apply Drawn0.step)⟩
  · rw [if_neg c2] at H
    have c2b0 : (a0.toList == ([97, 114, 101, 97] : List UInt8)) = false := beq_eq_false_iff_ne.mpr c2
    have c2b1 : (a0.toList != ([97, 114, 101, 97] : List UInt8)) = true := bne_iff_ne.mpr c2
    by_cases c3 : a0.toList = ([98, 97, 115, 101] : List UInt8)
    · rw [if_pos c3] at H
      have c3b0 : (a0.toList == ([98, 97, 115, 101] : List UInt8)) = true := beq_iff_eq.mpr c3
      have c3b1 : (a0.toList != ([98, 97, 115, 101] : List UInt8)) = false := bne_eq_false_iff_eq.mpr c3
      clear c3
      obtain rfl := Option.some.inj H
      go_enter Try.func30, Try.ntmps30
      go_wp2
      go_ret
      exact ⟨by first | rfl | (simp; done) | (simp [*]; done), by repeat (first | exact Drawn0.refl _ | apply Drawn0.step)⟩
    · rw [if_neg c3] at H
      have c3b0 : (a0.toList == ([98, 97, 115, 101] : List UInt8)) = false := beq_eq_false_iff_ne.mpr c3
      have c3b1 : (a0.toList != ([98, 97, 115, 101] : List UInt8)) = true := bne_iff_ne.mpr c3
      by_cases c4 : a0.toList = ([98, 114] : List UInt8)
      · rw [if_pos c4] at H
        have c4b0 : (a0.toList == ([98, 114] : List UInt8)) = true := beq_iff_eq.mpr c4
        have c4b1 : (a0.toList != ([98, 114] : List UInt8)) = false := bne_eq_false_iff_eq.mpr c4
        clear c4
        obtain rfl := Option.some.inj H
        go_enter Try.func30, Try.ntmps30
        go_wp2
        go_ret
        exact ⟨by first | rfl | (simp; done) | (simp [*]; done), by repeat (first | exact Drawn0.refl _ | apply Drawn0.step)⟩
      · rw [if_neg c4] at H
        have c4b0 : (a0.toList == ([98, 114] : List UInt8)) = false := beq_eq_false_iff_ne.mpr c4
        have c4b1 : (a0.toList != ([98, 114] : List UInt8)) = true := bne_iff_ne.mpr c4
        by_cases c5 : a0.toList = ([99, 111, 108] : List UInt8)
        · rw [if_pos c5] at H
          have c5b0 : (a0.toList == ([99, 111, 108] : List UInt8)) = true := beq_iff_eq.mpr c5
          have c5b1 : (a0.toList != ([99, 111, 108] : List UInt8)) = false := bne_eq_false_iff_eq.mpr c5
          clear c5
          obtain rfl := Option.some.inj H
          go_enter Try.func30, Try.ntmps30
          go_wp2
          go_ret
          exact ⟨by first | rfl | (simp; done) | (simp [*]; done), by repeat (first | exact Drawn0.refl _ | apply Drawn0.step)⟩
        · rw [if_neg c5] at H
          have c5b0 : (a0.toList == ([99, 111, 108] : List UInt8)) = false := beq_eq_false_iff_ne.mpr c5
          have c5b1 : (a0.toList != ([99, 111, 108] : List UInt8)) = true := bne_iff_ne.mpr c5
          by_cases c6 : a0.toList = ([101, 109, 98, 101, 100] : List UInt8)
          · rw [if_pos c6] at H
            have c6b0 : (a0.toList == ([101, 109, 98, 101, 100] : List UInt8)) = true := beq_iff_eq.mpr c6
            have c6b1 : (a0.toList != ([101, 109, 98, 101, 100] : List UInt8)) = false := bne_eq_false_iff_eq.mpr c6
            clear c6
            obtain rfl := Option.some.inj H
            go_enter Try.func30, Try.ntmps30
            go_wp2
            go_ret
            exact ⟨by first | rfl | (simp; done) | (simp [*]; done), by repeat (first | exact Drawn0.refl _ | apply Drawn0.step)⟩
          · rw [if_neg c6] at H
            have c6b0 : (a0.toList == ([101, 109, 98, 101, 100] : List UInt8)) = false := beq_eq_false_iff_ne.mpr c6
            have c6b1 : (a0.toList != ([101, 109, 98, 101, 100] : List UInt8)) = true := bne_iff_ne.mpr c6
            by_cases c7 : a0.toList = ([104, 114] : List UInt8)
            · rw [if_pos c7] at H
              have c7b0 : (a0.toList == ([104, 114] : List UInt8)) = true := beq_iff_eq.mpr c7
              have c7b1 : (a0.toList != ([104, 114] : List UInt8)) = false := bne_eq_false_iff_eq.mpr c7
              clear c7
              obtain rfl := Option.some.inj H
              go_enter Try.func30, Try.ntmps30
              go_wp2
              go_ret
              exact ⟨by first | rfl | (simp; done) | (simp [*]; done), by repeat (first | exact Drawn0.refl _ | apply Drawn0.step)⟩
            · rw [if_neg c7] at H
              have c7b0 : (a0.toList == ([104, 114] : List UInt8)) = false := beq_eq_false_iff_ne.mpr c7
              have c7b1 : (a0.toList != ([104, 114] : List UInt8)) = true := bne_iff_ne.mpr c7
              by_cases c8 : a0.toList = ([105, 109, 103] : List UInt8)
              · rw [if_pos c8] at H
                have c8b0 : (a0.toList == ([105, 109, 103] : List UInt8)) = true := beq_iff_eq.mpr c8
                have c8b1 : (a0.toList != ([105, 109, 103] : List UInt8)) = false := bne_eq_false_iff_eq.mpr c8
                clear c8
                obtain rfl := Option.some.inj H
                go_enter Try.func30, Try.ntmps30
                go_wp2
                go_ret
                exact ⟨by first | rfl | (simp; done) | (simp [*]; done), by repeat (first | exact Drawn0.refl _ | apply Drawn0.step)⟩
              · rw [if_neg c8] at H
                have c8b0 : (a0.toList == ([105, 109, 103] : List UInt8)) = false := beq_eq_false_iff_ne.mpr c8
                have c8b1 : (a0.toList != ([105, 109, 103] : List UInt8)) = true := bne_iff_ne.mpr c8
                by_cases c9 : a0.toList = ([105, 110, 112, 117, 116] : List UInt8)
                · rw [if_pos c9] at H
                  have c9b0 : (a0.toList == ([105, 110, 112, 117, 116] : List UInt8)) = true := beq_iff_eq.mpr c9
                  have c9b1 : (a0.toList != ([105, 110, 112, 117, 116] : List UInt8)) = false := bne_eq_false_iff_eq.mpr c9
                  clear c9
                  obtain rfl := Option.some.inj H
                  go_enter Try.func30, Try.ntmps30
                  go_wp2
                  go_ret
                  exact ⟨by first | rfl | (simp; done) | (simp [*]; done), by repeat (first | exact Drawn0.refl _ | apply Drawn0.step)⟩
                · rw [if_neg c9] at H
                  have c9b0 : (a0.toList == ([105, 110, 112, 117, 116] : List UInt8)) = false := beq_eq_false_iff_ne.mpr c9
                  have c9b1 : (a0.toList != ([105, 110, 112, 117, 116] : List UInt8)) = true := bne_iff_ne.mpr c9
                  by_cases c10 : a0.toList = ([108, 105, 110, 107] : List UInt8)
                  · rw [if_pos c10] at H
                    have c10b0 : (a0.toList == ([108, 105, 110, 107] : List UInt8)) = true := beq_iff_eq.mpr c10
                    have c10b1 : (a0.toList != ([108, 105, 110, 107] : List UInt8)) = false := bne_eq_false_iff_eq.mpr c10
                    clear c10
                    obtain rfl := Option.some.inj H
                    go_enter Try.func30, Try.ntmps30
                    go_wp2
                    go_ret
                    exact ⟨by first | rfl | (simp; done) | (simp [*]; done), by repeat (first | exact Drawn0.refl _ | apply Drawn0.step)⟩
                  · rw [if_neg c10] at H
                    have c10b0 : (a0.toList == ([108, 105, 110, 107] : List UInt8)) = false := beq_eq_false_iff_ne.mpr c10
                    have c10b1 : (a0.toList != ([108, 105, 110, 107] : List UInt8)) = true := bne_iff_ne.mpr c10
                    by_cases c11 : a0.toList = ([109, 101, 116, 97] : List UInt8)
                    · rw [if_pos c11] at H
                      have c11b0 : (a0.toList == ([109, 101, 116, 97] : List UInt8)) = true := beq_iff_eq.mpr c11
                      have c11b1 : (a0.toList != ([109, 101, 116, 97] : List UInt8)) = false := bne_eq_false_iff_eq.mpr c11
                      clear c11
                      obtain rfl := Option.some.inj H
                      go_enter Try.func30, Try.ntmps30
                      go_wp2
                      go_ret
                      exact ⟨by first | rfl | (simp; done) | (simp [*]; done), by repeat (first | exact Drawn0.refl _ | apply Drawn0.step)⟩
                    · rw [if_neg c11] at H
                      have c11b0 : (a0.toList == ([109, 101, 116, 97] : List UInt8)) = false := beq_eq_false_iff_ne.mpr c11
                      have c11b1 : (a0.toList != ([109, 101, 116, 97] : List UInt8)) = true := bne_iff_ne.mpr c11
                      by_cases c12 : a0.toList = ([115, 111, 117, 114, 99, 101] : List UInt8)
                      · rw [if_pos c12] at H
                        have c12b0 : (a0.toList == ([115, 111, 117, 114, 99, 101] : List UInt8)) = true := beq_iff_eq.mpr c12
                        have c12b1 : (a0.toList != ([115, 111, 117, 114, 99, 101] : List UInt8)) = false := bne_eq_false_iff_eq.mpr c12
                        clear c12
                        obtain rfl := Option.some.inj H
                        go_enter Try.func30, Try.ntmps30
                        go_wp2
                        go_ret
                        exact ⟨by first | rfl | (simp; done) | (simp [*]; done), by repeat (first | exact Drawn0.refl _ | apply Drawn0.step)⟩
                      · rw [if_neg c12] at H
                        have c12b0 : (a0.toList == ([115, 111, 117, 114, 99, 101] : List UInt8)) = false := beq_eq_false_iff_ne.mpr c12
                        have c12b1 : (a0.toList != ([115, 111, 117, 114, 99, 101] : List UInt8)) = true := bne_iff_ne.mpr c12
                        by_cases c13 : a0.toList = ([116, 114, 97, 99, 107] : List UInt8)
                        · rw [if_pos c13] at H
                          have c13b0 : (a0.toList == ([116, 114, 97, 99, 107] : List UInt8)) = true := beq_iff_eq.mpr c13
                          have c13b1 : (a0.toList != ([116, 114, 97, 99, 107] : List UInt8)) = false := bne_eq_false_iff_eq.mpr c13
                          clear c13
                          obtain rfl := Option.some.inj H
                          go_enter Try.func30, Try.ntmps30
                          go_wp2
                          go_ret
                          exact ⟨by first | rfl | (simp; done) | (simp [*]; done), by repeat (first | exact Drawn0.refl _ | apply Drawn0.step)⟩
                        · rw [if_neg c13] at H
                          have c13b0 : (a0.toList == ([116, 114, 97, 99, 107] : List UInt8)) = false := beq_eq_false_iff_ne.mpr c13
                          have c13b1 : (a0.toList != ([116, 114, 97, 99, 107] : List UInt8)) = true := bne_iff_ne.mpr c13
                          by_cases c14 : a0.toList = ([119, 98, 114] : List UInt8)
                          · rw [if_pos c14] at H
                            have c14b0 : (a0.toList == ([119, 98, 114] : List UInt8)) = true := beq_iff_eq.mpr c14
                            have c14b1 : (a0.toList != ([119, 98, 114] : List UInt8)) = false := bne_eq_false_iff_eq.mpr c14
                            clear c14
                            obtain rfl := Option.some.inj H
                            go_enter Try.func30, Try.ntmps30
                            go_wp2
                            go_ret
                            exact ⟨by first | rfl | (simp; done) | (simp [*]; done), by repeat (first | exact Drawn0.refl _ | apply Drawn0.step)⟩
                          · rw [if_neg c14] at H
                            have c14b0 : (a0.toList == ([119, 98, 114] : List UInt8)) = false := beq_eq_false_iff_ne.mpr c14
                            have c14b1 : (a0.toList != ([119, 98, 114] : List UInt8)) = true := bne_iff_ne.mpr c14
                            obtain rfl := Option.some.inj H
                            go_enter Try.func30, Try.ntmps30
                            go_wp2
                            go_ret
                            exact ⟨by first | rfl | (simp; done) | (simp [*]; done), by repeat (first | exact Drawn0.refl _ | apply Drawn0.step)⟩

/-! ### impl_Void: function 16 -/
def impl_Void.f (a0 : ByteArray) : Option (Bool) := (hhtml_IsVoidElement.f a0).bind fun t107 => (some t107)
set_option maxHeartbeats 8000000 in
set_option maxRecDepth 100000 in
theorem impl_Void.calls (a0 : ByteArray) (r : Bool) (w : World) (h : impl_Void.f a0 = some r) :
    Calls Try.prog 16 #[.string a0] w fun e w' => e = .returned (.bool r) ∧ Drawn0 w w' := by
  have H : ((hhtml_IsVoidElement.f a0).bind fun t107 => (some t107)) = some r := h
  clear h
  replace H := Option.bind_eq_some_iff.mp H
  obtain ⟨t107, A20, H⟩ := H
  replace H : (some t107) = some r := H
  have A2 := Aside0.mk A20
  clear A20
  obtain rfl := Option.some.inj H
  go_enter Try.func16, Try.ntmps16
  go_wp2_with (first | ((with_reducible refine gate_callee (f := 30) rfl ?_); refine goesL_ (some 4) rfl rfl Try.func30 (by kernel_rfl) rfl #[.string a0] rfl (by (try simp only [List.map_toArray, List.map_cons, List.map_nil]); first | done | rfl | (simp only [List.length_drop, List.length_take]; rfl)) ?_; (with_reducible refine (hhtml_IsVoidElement.calls a0 t107 _ A2.out).mono ?_); rintro e w' ⟨rfl, ⟨nd, rfl⟩⟩; refine ⟨_, rfl, ?_⟩))
  go_ret
  exact ⟨by first | rfl | (simp; done) | (simp [*]; done), by repeat (first | exact Drawn0.refl _ | apply Drawn0.step)⟩

/-! ### spec_Void: function 17 -/
def spec_Void.f (k : Nat) (a0 : ByteArray) : Option (Bool) := (spec_tagListed.f k a0 (([(⟨#[97, 114, 101, 97]⟩ : ByteArray), (⟨#[98, 97, 115, 101]⟩ : ByteArray), (⟨#[98, 114]⟩ : ByteArray), (⟨#[99, 111, 108]⟩ : ByteArray), (⟨#[101, 109, 98, 101, 100]⟩ : ByteArray), (⟨#[104, 114]⟩ : ByteArray), (⟨#[105, 109, 103]⟩ : ByteArray), (⟨#[105, 110, 112, 117, 116]⟩ : ByteArray), (⟨#[108, 105, 110, 107]⟩ : ByteArray), (⟨#[109, 101, 116, 97]⟩ : ByteArray), (⟨#[115, 111, 117, 114, 99, 101]⟩ : ByteArray), (⟨#[116, 114, 97, 99, 107]⟩ : ByteArray), (⟨#[119, 98, 114]⟩ : ByteArray)] : List ByteArray))).bind fun t111 => (some t111)
theorem spec_Void.mono : ∀ a0 k, LeO (spec_Void.f k a0) (spec_Void.f (k + 1) a0) := by
  intro a0 k
  unfold spec_Void.f
  repeat' first
      | (with_reducible exact spec_tagListed.mono _ _ _)
      | (with_reducible exact LeO.refl _)
      | (with_reducible exact LeO.none _)
      | (with_reducible refine LeO.ite ?_ ?_)
      | (with_reducible refine LeO.bind ?_ (fun _ => ?_))
      | exact spec_tagListed.mono _ _ _
      | exact LeO.none _
      | refine LeO.ite ?_ ?_
      | refine LeO.bind ?_ (fun _ => ?_)
set_option maxHeartbeats 8000000 in
set_option maxRecDepth 100000 in
theorem spec_Void.calls (k : Nat) (a0 : ByteArray) (r : Bool) (w : World) (h : spec_Void.f k a0 = some r) :
    Calls Try.prog 17 #[.string a0] w fun e w' => e = .returned (.bool r) ∧ Below w.heap.size w w' := by
  have HB := Aside0.mk (Below.refl w.heap.size w)
  have H : ((spec_tagListed.f k a0 (([(⟨#[97, 114, 101, 97]⟩ : ByteArray), (⟨#[98, 97, 115, 101]⟩ : ByteArray), (⟨#[98, 114]⟩ : ByteArray), (⟨#[99, 111, 108]⟩ : ByteArray), (⟨#[101, 109, 98, 101, 100]⟩ : ByteArray), (⟨#[104, 114]⟩ : ByteArray), (⟨#[105, 109, 103]⟩ : ByteArray), (⟨#[105, 110, 112, 117, 116]⟩ : ByteArray), (⟨#[108, 105, 110, 107]⟩ : ByteArray), (⟨#[109, 101, 116, 97]⟩ : ByteArray), (⟨#[115, 111, 117, 114, 99, 101]⟩ : ByteArray), (⟨#[116, 114, 97, 99, 107]⟩ : ByteArray), (⟨#[119, 98, 114]⟩ : ByteArray)] : List ByteArray))).bind fun t111 => (some t111)) = some r := h
  clear h
  obtain ⟨y108, hy108⟩ : ∃ y_ : List ByteArray, y_ = (([(⟨#[97, 114, 101, 97]⟩ : ByteArray), (⟨#[98, 97, 115, 101]⟩ : ByteArray), (⟨#[98, 114]⟩ : ByteArray), (⟨#[99, 111, 108]⟩ : ByteArray), (⟨#[101, 109, 98, 101, 100]⟩ : ByteArray), (⟨#[104, 114]⟩ : ByteArray), (⟨#[105, 109, 103]⟩ : ByteArray), (⟨#[105, 110, 112, 117, 116]⟩ : ByteArray), (⟨#[108, 105, 110, 107]⟩ : ByteArray), (⟨#[109, 101, 116, 97]⟩ : ByteArray), (⟨#[115, 111, 117, 114, 99, 101]⟩ : ByteArray), (⟨#[116, 114, 97, 99, 107]⟩ : ByteArray), (⟨#[119, 98, 114]⟩ : ByteArray)] : List ByteArray)) := ⟨_, rfl⟩
  replace H : ((spec_tagListed.f k a0 y108).bind fun t111 => (some t111)) = some r := by first | (rw [hy108]; with_reducible exact H) | (have H2_ := (Option.bind_some _ _).symm.trans H; rw [hy108]; with_reducible exact H2_) | (have H2_ := (Option.bind_some _ _).symm.trans H; with_reducible exact H2_) | with_reducible exact H | (rw [hy108]; exact H) | exact H
  have Ny108 := Aside0.mk hy108
  clear hy108
  replace H := Option.bind_eq_some_iff.mp H
  obtain ⟨t111, A20, H⟩ := H
  replace H : (some t111) = some r := H
  have A2 := Aside0.mk A20
  clear A20
  obtain rfl := Option.some.inj H
  go_enter Try.func17, Try.ntmps17
  go_wp2_with (first | ((with_reducible refine gate_dst (N := 4) rfl ?_); refine Kd.R_lit Kd.string _ 9 ?hg (N := 4) ?hd (xs := ([(⟨#[97, 114, 101, 97]⟩ : ByteArray), (⟨#[98, 97, 115, 101]⟩ : ByteArray), (⟨#[98, 114]⟩ : ByteArray), (⟨#[99, 111, 108]⟩ : ByteArray), (⟨#[101, 109, 98, 101, 100]⟩ : ByteArray), (⟨#[104, 114]⟩ : ByteArray), (⟨#[105, 109, 103]⟩ : ByteArray), (⟨#[105, 110, 112, 117, 116]⟩ : ByteArray), (⟨#[108, 105, 110, 107]⟩ : ByteArray), (⟨#[109, 101, 116, 97]⟩ : ByteArray), (⟨#[115, 111, 117, 114, 99, 101]⟩ : ByteArray), (⟨#[116, 114, 97, 99, 107]⟩ : ByteArray), (⟨#[119, 98, 114]⟩ : ByteArray)] : List ByteArray)) (inner := [.string (⟨#[97, 114, 101, 97]⟩ : ByteArray), .string (⟨#[98, 97, 115, 101]⟩ : ByteArray), .string (⟨#[98, 114]⟩ : ByteArray), .string (⟨#[99, 111, 108]⟩ : ByteArray), .string (⟨#[101, 109, 98, 101, 100]⟩ : ByteArray), .string (⟨#[104, 114]⟩ : ByteArray), .string (⟨#[105, 109, 103]⟩ : ByteArray), .string (⟨#[105, 110, 112, 117, 116]⟩ : ByteArray), .string (⟨#[108, 105, 110, 107]⟩ : ByteArray), .string (⟨#[109, 101, 116, 97]⟩ : ByteArray), .string (⟨#[115, 111, 117, 114, 99, 101]⟩ : ByteArray), .string (⟨#[116, 114, 97, 99, 107]⟩ : ByteArray), .string (⟨#[119, 98, 114]⟩ : ByteArray)]) (ok := fun _ => True) (okp := fun _ => True) ?hr ?hp (fun _ hk => hk) trivial (Below.refl _ _) (Nat.le_refl _) (by simp) ?_; (case hd => rfl); (case hg => rfl); (case hr => first | (go_simp; done) | (go_simp; rfl)); (case hp => exact (Reps.one (show Kd.M Kd.string _ _ _ (⟨#[97, 114, 101, 97]⟩ : ByteArray) [.string (⟨#[97, 114, 101, 97]⟩ : ByteArray)] from rfl) (Reps.one (show Kd.M Kd.string _ _ _ (⟨#[98, 97, 115, 101]⟩ : ByteArray) [.string (⟨#[98, 97, 115, 101]⟩ : ByteArray)] from rfl) (Reps.one (show Kd.M Kd.string _ _ _ (⟨#[98, 114]⟩ : ByteArray) [.string (⟨#[98, 114]⟩ : ByteArray)] from rfl) (Reps.one (show Kd.M Kd.string _ _ _ (⟨#[99, 111, 108]⟩ : ByteArray) [.string (⟨#[99, 111, 108]⟩ : ByteArray)] from rfl) (Reps.one (show Kd.M Kd.string _ _ _ (⟨#[101, 109, 98, 101, 100]⟩ : ByteArray) [.string (⟨#[101, 109, 98, 101, 100]⟩ : ByteArray)] from rfl) (Reps.one (show Kd.M Kd.string _ _ _ (⟨#[104, 114]⟩ : ByteArray) [.string (⟨#[104, 114]⟩ : ByteArray)] from rfl) (Reps.one (show Kd.M Kd.string _ _ _ (⟨#[105, 109, 103]⟩ : ByteArray) [.string (⟨#[105, 109, 103]⟩ : ByteArray)] from rfl) (Reps.one (show Kd.M Kd.string _ _ _ (⟨#[105, 110, 112, 117, 116]⟩ : ByteArray) [.string (⟨#[105, 110, 112, 117, 116]⟩ : ByteArray)] from rfl) (Reps.one (show Kd.M Kd.string _ _ _ (⟨#[108, 105, 110, 107]⟩ : ByteArray) [.string (⟨#[108, 105, 110, 107]⟩ : ByteArray)] from rfl) (Reps.one (show Kd.M Kd.string _ _ _ (⟨#[109, 101, 116, 97]⟩ : ByteArray) [.string (⟨#[109, 101, 116, 97]⟩ : ByteArray)] from rfl) (Reps.one (show Kd.M Kd.string _ _ _ (⟨#[115, 111, 117, 114, 99, 101]⟩ : ByteArray) [.string (⟨#[115, 111, 117, 114, 99, 101]⟩ : ByteArray)] from rfl) (Reps.one (show Kd.M Kd.string _ _ _ (⟨#[116, 114, 97, 99, 107]⟩ : ByteArray) [.string (⟨#[116, 114, 97, 99, 107]⟩ : ByteArray)] from rfl) (Reps.one (show Kd.M Kd.string _ _ _ (⟨#[119, 98, 114]⟩ : ByteArray) [.string (⟨#[119, 98, 114]⟩ : ByteArray)] from rfl) (Reps.none _ _))))))))))))))); intro v109 w3 ho4 hb hg_ hnew_; clear hg_ hnew_; (first | rw [← Ny108.out] at ho4 | (simp only [Int.reduceToNat] at ho4; rw [← Ny108.out] at ho4)); have n0_ := Aside0.mk (Kd.R_lower ho4 (below_size (by repeat (first | (with_reducible first | exact HB.out | apply below_alloc | apply pw_below_drewN | apply below_drew1) | exact HB.out)))); have n1_ := Aside0.mk (below_step (by repeat (first | (with_reducible first | exact HB.out | apply below_alloc | apply pw_below_drewN | apply below_drew1) | exact HB.out)) hb); clear HB; have HO110 := n0_; have HB := n1_; clear n0_ n1_; clear hb ho4; obtain ⟨Ao5, co5, eo5⟩ := Kd.R_slice HO110.out; subst eo5) | ((with_reducible refine gate_callee (f := 29) rfl ?_); refine goesL_ (some 5) rfl rfl Try.func29 (by kernel_rfl) rfl #[.string a0, .slice Ao5 y108.length co5] rfl (by (try simp only [List.map_toArray, List.map_cons, List.map_nil]); first | done | rfl | (simp only [List.length_drop, List.length_take]; rfl)) ?_; (with_reducible refine (spec_tagListed.calls k a0 _ _ y108 t111 _ ?side1 ?side2 A2.out).mono ?_); (case side1 => repeat (first | exact (Kd.R_reads' HO110.out).2.2 | (with_reducible refine Kd.C_alloc ?_ _) | (with_reducible refine Kd.C_drewN ?_ _) | (with_reducible refine Kd.C_drew ?_))); (case side2 => exact (Kd.R_reads' HO110.out).2.1); rintro e w' ⟨rfl, ⟨nd, rfl⟩⟩; refine ⟨_, rfl, ?_⟩))
  go_ret
  exact ⟨by first | rfl | (simp [errW_none, errW_some] <;> rfl) | (simp [*, errW_none, errW_some] <;> rfl), by repeat (first | (with_reducible first | exact HB.out | apply below_alloc | apply pw_below_drewN | apply below_drew1) | exact HB.out)⟩

end Go.Proofs.Ytelijbnnhgmklaa.PFnElements
