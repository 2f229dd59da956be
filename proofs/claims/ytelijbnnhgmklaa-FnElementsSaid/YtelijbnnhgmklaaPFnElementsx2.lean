-- PRINTED BY print.sh 35421559b90ae4d0a3588c463048766b98c2df88dd9212a6774a882060cdf62d: not written by this session
import Derived.Test.YtelijbnnhgmklaaPFnElementsx0
import Derived.Test.YtelijbnnhgmklaaPFnElementsx1
namespace Go.Proofs.Ytelijbnnhgmklaa.PFnElements
open Go.RowKit Go.Proofs.YtelijbnnhgmklaaW.PrintWords Go.Proofs.YtelijbnnhgmklaaW.PrintLast Go.Proofs.YtelijbnnhgmklaaW.PrintMore
attribute [local go_sem] max2_int min2_int max_two min_two max_three min_three max_four min_four   -- for this text's walks alone
set_option linter.unusedVariables false
set_option linter.unusedSimpArgs false

/-! ### hhtml_IsBlockElement: function 31 -/
def hhtml_IsBlockElement.f (a0 : ByteArray) : Option (Bool) := if a0.toList = ([97, 100, 100, 114, 101, 115, 115] : List UInt8) then (some true) else (if a0.toList = ([97, 114, 116, 105, 99, 108, 101] : List UInt8) then (some true) else (if a0.toList = ([97, 115, 105, 100, 101] : List UInt8) then (some true) else (if a0.toList = ([98, 108, 111, 99, 107, 113, 117, 111, 116, 101] : List UInt8) then (some true) else (if a0.toList = ([99, 97, 112, 116, 105, 111, 110] : List UInt8) then (some true) else (if a0.toList = ([100, 100] : List UInt8) then (some true) else (if a0.toList = ([100, 101, 116, 97, 105, 108, 115] : List UInt8) then (some true) else (if a0.toList = ([100, 105, 97, 108, 111, 103] : List UInt8) then (some true) else (if a0.toList = ([100, 105, 118] : List UInt8) then (some true) else (if a0.toList = ([100, 108] : List UInt8) then (some true) else (if a0.toList = ([100, 116] : List UInt8) then (some true) else (if a0.toList = ([102, 105, 101, 108, 100, 115, 101, 116] : List UInt8) then (some true) else (if a0.toList = ([102, 105, 103, 99, 97, 112, 116, 105, 111, 110] : List UInt8) then (some true) else (if a0.toList = ([102, 105, 103, 117, 114, 101] : List UInt8) then (some true) else (if a0.toList = ([102, 111, 111, 116, 101, 114] : List UInt8) then (some true) else (if a0.toList = ([102, 111, 114, 109] : List UInt8) then (some true) else (if a0.toList = ([104, 49] : List UInt8) then (some true) else (if a0.toList = ([104, 50] : List UInt8) then (some true) else (if a0.toList = ([104, 51] : List UInt8) then (some true) else (if a0.toList = ([104, 52] : List UInt8) then (some true) else (if a0.toList = ([104, 53] : List UInt8) then (some true) else (if a0.toList = ([104, 54] : List UInt8) then (some true) else (if a0.toList = ([104, 101, 97, 100, 101, 114] : List UInt8) then (some true) else (if a0.toList = ([104, 103, 114, 111, 117, 112] : List UInt8) then (some true) else (if a0.toList = ([104, 114] : List UInt8) then (some true) else (if a0.toList = ([108, 105] : List UInt8) then (some true) else (if a0.toList = ([109, 97, 105, 110] : List UInt8) then (some true) else (if a0.toList = ([110, 97, 118] : List UInt8) then (some true) else (if a0.toList = ([111, 108] : List UInt8) then (some true) else (if a0.toList = ([112] : List UInt8) then (some true) else (if a0.toList = ([112, 114, 101] : List UInt8) then (some true) else (if a0.toList = ([115, 101, 99, 116, 105, 111, 110] : List UInt8) then (some true) else (if a0.toList = ([115, 117, 109, 109, 97, 114, 121] : List UInt8) then (some true) else (if a0.toList = ([116, 97, 98, 108, 101] : List UInt8) then (some true) else (if a0.toList = ([116, 98, 111, 100, 121] : List UInt8) then (some true) else (if a0.toList = ([116, 100] : List UInt8) then (some true) else (if a0.toList = ([116, 102, 111, 111, 116] : List UInt8) then (some true) else (if a0.toList = ([116, 104] : List UInt8) then (some true) else (if a0.toList = ([116, 104, 101, 97, 100] : List UInt8) then (some true) else (if a0.toList = ([116, 114] : List UInt8) then (some true) else (if a0.toList = ([117, 108] : List UInt8) then (some true) else (some false)))))))))))))))))))))))))))))))))))))))))
set_option maxHeartbeats 8000000 in
set_option maxRecDepth 100000 in
theorem hhtml_IsBlockElement.calls (a0 : ByteArray) (r : Bool) (w : World) (h : hhtml_IsBlockElement.f a0 = some r) :
    Calls Try.prog 31 #[.string a0] w fun e w' => e = .returned (.bool r) ∧ Drawn0 w w' := by
  have H : (if a0.toList = ([97, 100, 100, 114, 101, 115, 115] : List UInt8) then (some true) else (if a0.toList = ([97, 114, 116, 105, 99, 108, 101] : List UInt8) then (some true) else (if a0.toList = ([97, 115, 105, 100, 101] : List UInt8) then (some true) else (if a0.toList = ([98, 108, 111, 99, 107, 113, 117, 111, 116, 101] : List UInt8) then (some true) else (if a0.toList = ([99, 97, 112, 116, 105, 111, 110] : List UInt8) then (some true) else (if a0.toList = ([100, 100] : List UInt8) then (some true) else (if a0.toList = ([100, 101, 116, 97, 105, 108, 115] : List UInt8) then (some true) else (if a0.toList = ([100, 105, 97, 108, 111, 103] : List UInt8) then (some true) else (if a0.toList = ([100, 105, 118] : List UInt8) then (some true) else (if a0.toList = ([100, 108] : List UInt8) then (some true) else (if a0.toList = ([100, 116] : List UInt8) then (some true) else (if a0.toList = ([102, 105, 101, 108, 100, 115, 101, 116] : List UInt8) then (some true) else (if a0.toList = ([102, 105, 103, 99, 97, 112, 116, 105, 111, 110] : List UInt8) then (some true) else (if a0.toList = ([102, 105, 103, 117, 114, 101] : List UInt8) then (some true) else (if a0.toList = ([102, 111, 111, 116, 101, 114] : List UInt8) then (some true) else (if a0.toList = ([102, 111, 114, 109] : List UInt8) then (some true) else (if a0.toList = ([104, 49] : List UInt8) then (some true) else (if a0.toList = ([104, 50] : List UInt8) then (some true) else (if a0.toList = ([104, 51] : List UInt8) then (some true) else (if a0.toList = ([104, 52] : List UInt8) then (some true) else (if a0.toList = ([104, 53] : List UInt8) then (some true) else (if a0.toList = ([104, 54] : List UInt8) then (some true) else (if a0.toList = ([104, 101, 97, 100, 101, 114] : List UInt8) then (some true) else (if a0.toList = ([104, 103, 114, 111, 117, 112] : List UInt8) then (some true) else (if a0.toList = ([104, 114] : List UInt8) then (some true) else (if a0.toList = ([108, 105] : List UInt8) then (some true) else (if a0.toList = ([109, 97, 105, 110] : List UInt8) then (some true) else (if a0.toList = ([110, 97, 118] : List UInt8) then (some true) else (if a0.toList = ([111, 108] : List UInt8) then (some true) else (if a0.toList = ([112] : List UInt8) then (some true) else (if a0.toList = ([112, 114, 101] : List UInt8) then (some true) else (if a0.toList = ([115, 101, 99, 116, 105, 111, 110] : List UInt8) then (some true) else (if a0.toList = ([115, 117, 109, 109, 97, 114, 121] : List UInt8) then (some true) else (if a0.toList = ([116, 97, 98, 108, 101] : List UInt8) then (some true) else (if a0.toList = ([116, 98, 111, 100, 121] : List UInt8) then (some true) else (if a0.toList = ([116, 100] : List UInt8) then (some true) else (if a0.toList = ([116, 102, 111, 111, 116] : List UInt8) then (some true) else (if a0.toList = ([116, 104] : List UInt8) then (some true) else (if a0.toList = ([116, 104, 101, 97, 100] : List UInt8) then (some true) else (if a0.toList = ([116, 114] : List UInt8) then (some true) else (if a0.toList = ([117, 108] : List UInt8) then (some true) else (some false)))))))))))))))))))))))))))))))))))))))))) = some r := h
  clear h
  by_cases c2 : a0.toList = ([97, 100, 100, 114, 101, 115, 115] : List UInt8)
  · rw [if_pos c2] at H
    have c2b0 : (a0.toList == ([97, 100, 100, 114, 101, 115, 115] : List UInt8)) = true := beq_iff_eq.mpr c2
    have c2b1 : (a0.toList != ([97, 100, 100, 114, 101, 115, 115] : List UInt8)) = false := bne_eq_false_iff_eq.mpr c2
    clear c2
    obtain rfl := Option.some.inj H
    go_enter Try.func31, Try.ntmps31
    go_wp2
    go_ret
    exact ⟨by first | rfl | (simp; done) | (simp [*]; done), by repeat (first | exact Drawn0.refl _ | apply Drawn0.step)⟩
  · rw [if_neg c2] at H
    have c2b0 : (a0.toList == ([97, 100, 100, 114, 101, 115, 115] : List UInt8)) = false := beq_eq_false_iff_ne.mpr c2
    have c2b1 : (a0.toList != ([97, 100, 100, 114, 101, 115, 115] : List UInt8)) = true := bne_iff_ne.mpr c2
    by_cases c3 : a0.toList = ([97, 114, 116, 105, 99, 108, 101] : List UInt8)
    · rw [if_pos c3] at H
      have c3b0 : (a0.toList == ([97, 114, 116, 105, 99, 108, 101] : List UInt8)) = true := beq_iff_eq.mpr c3
      have c3b1 : (a0.toList != ([97, 114, 116, 105, 99, 108, 101] : List UInt8)) = false := bne_eq_false_iff_eq.mpr c3
      clear c3
      obtain rfl := Option.some.inj H
      go_enter Try.func31, Try.ntmps31
      go_wp2
      go_ret
      exact ⟨by first | rfl | (simp; done) | (simp [*]; done), by repeat (first | exact Drawn0.refl _ | apply Drawn0.step)⟩
    · rw [if_neg c3] at H
      have c3b0 : (a0.toList == ([97, 114, 116, 105, 99, 108, 101] : List UInt8)) = false := beq_eq_false_iff_ne.mpr c3
      have c3b1 : (a0.toList != ([97, 114, 116, 105, 99, 108, 101] : List UInt8)) = true := bne_iff_ne.mpr c3
      by_cases c4 : a0.toList = ([97, 115, 105, 100, 101] : List UInt8)
      · rw [if_pos c4] at H
        have c4b0 : (a0.toList == ([97, 115, 105, 100, 101] : List UInt8)) = true := beq_iff_eq.mpr c4
        have c4b1 : (a0.toList != ([97, 115, 105, 100, 101] : List UInt8)) = false := bne_eq_false_iff_eq.mpr c4
        clear c4
        obtain rfl := Option.some.inj H
        go_enter Try.func31, Try.ntmps31
        go_wp2
        go_ret
        exact ⟨by first | rfl | (simp; done) | (simp [*]; done), by repeat (first | exact Drawn0.refl _ | apply Drawn0.step)⟩
      · rw [if_neg c4] at H
        have c4b0 : (a0.toList == ([97, 115, 105, 100, 101] : List UInt8)) = false := beq_eq_false_iff_ne.mpr c4
        have c4b1 : (a0.toList != ([97, 115, 105, 100, 101] : List UInt8)) = true := bne_iff_ne.mpr c4
        by_cases c5 : a0.toList = ([98, 108, 111, 99, 107, 113, 117, 111, 116, 101] : List UInt8)
        · rw [if_pos c5] at H
          have c5b0 : (a0.toList == ([98, 108, 111, 99, 107, 113, 117, 111, 116, 101] : List UInt8)) = true := beq_iff_eq.mpr c5
          have c5b1 : (a0.toList != ([98, 108, 111, 99, 107, 113, 117, 111, 116, 101] : List UInt8)) = false := bne_eq_false_iff_eq.mpr c5
          clear c5
          obtain rfl := Option.some.inj H
          go_enter Try.func31, Try.ntmps31
          go_wp2
          go_ret
          exact ⟨by first | rfl | (simp; done) | (simp [*]; done), by repeat (first | exact Drawn0.refl _ | apply Drawn0.step)⟩
        · rw [if_neg c5] at H
          have c5b0 : (a0.toList == ([98, 108, 111, 99, 107, 113, 117, 111, 116, 101] : List UInt8)) = false := beq_eq_false_iff_ne.mpr c5
          have c5b1 : (a0.toList != ([98, 108, 111, 99, 107, 113, 117, 111, 116, 101] : List UInt8)) = true := bne_iff_ne.mpr c5
          by_cases c6 : a0.toList = ([99, 97, 112, 116, 105, 111, 110] : List UInt8)
          · rw [if_pos c6] at H
            have c6b0 : (a0.toList == ([99, 97, 112, 116, 105, 111, 110] : List UInt8)) = true := beq_iff_eq.mpr c6
            have c6b1 : (a0.toList != ([99, 97, 112, 116, 105, 111, 110] : List UInt8)) = false := bne_eq_false_iff_eq.mpr c6
            clear c6
            obtain rfl := Option.some.inj H
            go_enter Try.func31, Try.ntmps31
            go_wp2
            go_ret
            exact ⟨by first | rfl | (simp; done) | (simp [*]; done), by repeat (first | exact Drawn0.refl _ | apply Drawn0.step)⟩
          · rw [if_neg c6] at H
            have c6b0 : (a0.toList == ([99, 97, 112, 116, 105, 111, 110] : List UInt8)) = false := beq_eq_false_iff_ne.mpr c6
            have c6b1 : (a0.toList != ([99, 97, 112, 116, 105, 111, 110] : List UInt8)) = true := bne_iff_ne.mpr c6
            by_cases c7 : a0.toList = ([100, 100] : List UInt8)
            · rw [if_pos c7] at H
              have c7b0 : (a0.toList == ([100, 100] : List UInt8)) = true := beq_iff_eq.mpr c7
              have c7b1 : (a0.toList != ([100, 100] : List UInt8)) = false := bne_eq_false_iff_eq.mpr c7
              clear c7
              obtain rfl := Option.some.inj H
              go_enter Try.func31, Try.ntmps31
              go_wp2
              go_ret
              exact ⟨by first | rfl | (simp; done) | (simp [*]; done), by repeat (first | exact Drawn0.refl _ | apply Drawn0.step)⟩
            · rw [if_neg c7] at H
              have c7b0 : (a0.toList == ([100, 100] : List UInt8)) = false := beq_eq_false_iff_ne.mpr c7
              have c7b1 : (a0.toList != ([100, 100] : List UInt8)) = true := bne_iff_ne.mpr c7
              by_cases c8 : a0.toList = ([100, 101, 116, 97, 105, 108, 115] : List UInt8)
              · rw [if_pos c8] at H
                have c8b0 : (a0.toList == ([100, 101, 116, 97, 105, 108, 115] : List UInt8)) = true := beq_iff_eq.mpr c8
                have c8b1 : (a0.toList != ([100, 101, 116, 97, 105, 108, 115] : List UInt8)) = false := bne_eq_false_iff_eq.mpr c8
                clear c8
                obtain rfl := Option.some.inj H
                go_enter Try.func31, Try.ntmps31
                go_wp2
                go_ret
                exact ⟨by first | rfl | (simp; done) | (simp [*]; done), by repeat (first | exact Drawn0.refl _ | apply Drawn0.step)⟩
              · rw [if_neg c8] at H
                have c8b0 : (a0.toList == ([100, 101, 116, 97, 105, 108, 115] : List UInt8)) = false := beq_eq_false_iff_ne.mpr c8
                have c8b1 : (a0.toList != ([100, 101, 116, 97, 105, 108, 115] : List UInt8)) = true := bne_iff_ne.mpr c8
                by_cases c9 : a0.toList = ([100, 105, 97, 108, 111, 103] : List UInt8)
                · rw [if_pos c9] at H
                  have c9b0 : (a0.toList == ([100, 105, 97, 108, 111, 103] : List UInt8)) = true := beq_iff_eq.mpr c9
                  have c9b1 : (a0.toList != ([100, 105, 97, 108, 111, 103] : List UInt8)) = false := bne_eq_false_iff_eq.mpr c9
                  clear c9
                  obtain rfl := Option.some.inj H
                  go_enter Try.func31, Try.ntmps31
                  go_wp2
                  go_ret
                  exact ⟨by first | rfl | (simp; done) | (simp [*]; done), by repeat (first | exact Drawn0.refl _ | apply Drawn0.step)⟩
                · rw [if_neg c9] at H
                  have c9b0 : (a0.toList == ([100, 105, 97, 108, 111, 103] : List UInt8)) = false := beq_eq_false_iff_ne.mpr c9
                  have c9b1 : (a0.toList != ([100, 105, 97, 108, 111, 103] : List UInt8)) = true := bne_iff_ne.mpr c9
                  by_cases c10 : a0.toList = ([100, 105, 118] : List UInt8)
                  · rw [if_pos c10] at H
                    have c10b0 : (a0.toList == ([100, 105, 118] : List UInt8)) = true := beq_iff_eq.mpr c10
                    have c10b1 : (a0.toList != ([100, 105, 118] : List UInt8)) = false := bne_eq_false_iff_eq.mpr c10
                    clear c10
                    obtain rfl := Option.some.inj H
                    go_enter Try.func31, Try.ntmps31
                    go_wp2
                    go_ret
                    exact ⟨by first | rfl | (simp; done) | (simp [*]; done), by repeat (first | exact Drawn0.refl _ | apply Drawn0.step)⟩
                  · rw [if_neg c10] at H
                    have c10b0 : (a0.toList == ([100, 105, 118] : List UInt8)) = false := beq_eq_false_iff_ne.mpr c10
                    have c10b1 : (a0.toList != ([100, 105, 118] : List UInt8)) = true := bne_iff_ne.mpr c10
                    by_cases c11 : a0.toList = ([100, 108] : List UInt8)
                    · rw [if_pos c11] at H
                      have c11b0 : (a0.toList == ([100, 108] : List UInt8)) = true := beq_iff_eq.mpr c11
                      have c11b1 : (a0.toList != ([100, 108] : List UInt8)) = false := bne_eq_false_iff_eq.mpr c11
                      clear c11
                      obtain rfl := Option.some.inj H
                      go_enter Try.func31, Try.ntmps31
                      go_wp2
                      go_ret
                      exact ⟨by first | rfl | (simp; done) | (simp [*]; done), by repeat (first | exact Drawn0.refl _ | apply Drawn0.step)⟩
                    · rw [if_neg c11] at H
                      have c11b0 : (a0.toList == ([100, 108] : List UInt8)) = false := beq_eq_false_iff_ne.mpr c11
                      have c11b1 : (a0.toList != ([100, 108] : List UInt8)) = true := bne_iff_ne.mpr c11
                      by_cases c12 : a0.toList = ([100, 116] : List UInt8)
                      · rw [if_pos c12] at H
                        have c12b0 : (a0.toList == ([100, 116] : List UInt8)) = true := beq_iff_eq.mpr c12
                        have c12b1 : (a0.toList != ([100, 116] : List UInt8)) = false := bne_eq_false_iff_eq.mpr c12
                        clear c12
                        obtain rfl := Option.some.inj H
                        go_enter Try.func31, Try.ntmps31
                        go_wp2
                        go_ret
                        exact ⟨by first | rfl | (simp; done) | (simp [*]; done), by repeat (first | exact Drawn0.refl _ | apply Drawn0.step)⟩
                      · rw [if_neg c12] at H
                        have c12b0 : (a0.toList == ([100, 116] : List UInt8)) = false := beq_eq_false_iff_ne.mpr c12
                        have c12b1 : (a0.toList != ([100, 116] : List UInt8)) = true := bne_iff_ne.mpr c12
                        by_cases c13 : a0.toList = ([102, 105, 101, 108, 100, 115, 101, 116] : List UInt8)
                        · rw [if_pos c13] at H
                          have c13b0 : (a0.toList == ([102, 105, 101, 108, 100, 115, 101, 116] : List UInt8)) = true := beq_iff_eq.mpr c13
                          have c13b1 : (a0.toList != ([102, 105, 101, 108, 100, 115, 101, 116] : List UInt8)) = false := bne_eq_false_iff_eq.mpr c13
                          clear c13
                          obtain rfl := Option.some.inj H
                          go_enter Try.func31, Try.ntmps31
                          go_wp2
                          go_ret
                          exact ⟨by first | rfl | (simp; done) | (simp [*]; done), by repeat (first | exact Drawn0.refl _ | apply Drawn0.step)⟩
                        · rw [if_neg c13] at H
                          have c13b0 : (a0.toList == ([102, 105, 101, 108, 100, 115, 101, 116] : List UInt8)) = false := beq_eq_false_iff_ne.mpr c13
                          have c13b1 : (a0.toList != ([102, 105, 101, 108, 100, 115, 101, 116] : List UInt8)) = true := bne_iff_ne.mpr c13
                          by_cases c14 : a0.toList = ([102, 105, 103, 99, 97, 112, 116, 105, 111, 110] : List UInt8)
                          · rw [if_pos c14] at H
                            have c14b0 : (a0.toList == ([102, 105, 103, 99, 97, 112, 116, 105, 111, 110] : List UInt8)) = true := beq_iff_eq.mpr c14
                            have c14b1 : (a0.toList != ([102, 105, 103, 99, 97, 112, 116, 105, 111, 110] : List UInt8)) = false := bne_eq_false_iff_eq.mpr c14
                            clear c14
                            obtain rfl := Option.some.inj H
                            go_enter Try.func31, Try.ntmps31
                            go_wp2
                            go_ret
                            exact ⟨by first | rfl | (simp; done) | (simp [*]; done), by repeat (first | exact Drawn0.refl _ | apply Drawn0.step)⟩
                          · rw [if_neg c14] at H
                            have c14b0 : (a0.toList == ([102, 105, 103, 99, 97, 112, 116, 105, 111, 110] : List UInt8)) = false := beq_eq_false_iff_ne.mpr c14
                            have c14b1 : (a0.toList != ([102, 105, 103, 99, 97, 112, 116, 105, 111, 110] : List UInt8)) = true := bne_iff_ne.mpr c14
                            by_cases c15 : a0.toList = ([102, 105, 103, 117, 114, 101] : List UInt8)
                            · rw [if_pos c15] at H
                              have c15b0 : (a0.toList == ([102, 105, 103, 117, 114, 101] : List UInt8)) = true := beq_iff_eq.mpr c15
                              have c15b1 : (a0.toList != ([102, 105, 103, 117, 114, 101] : List UInt8)) = false := bne_eq_false_iff_eq.mpr c15
                              clear c15
                              obtain rfl := Option.some.inj H
                              go_enter Try.func31, Try.ntmps31
                              go_wp2
                              go_ret
                              exact ⟨by first | rfl | (simp; done) | (simp [*]; done), by repeat (first | exact Drawn0.refl _ | apply Drawn0.step)⟩
                            · rw [if_neg c15] at H
                              have c15b0 : (a0.toList == ([102, 105, 103, 117, 114, 101] : List UInt8)) = false := beq_eq_false_iff_ne.mpr c15
                              have c15b1 : (a0.toList != ([102, 105, 103, 117, 114, 101] : List UInt8)) = true := bne_iff_ne.mpr c15
                              by_cases c16 : a0.toList = ([102, 111, 111, 116, 101, 114] : List UInt8)
                              · rw [if_pos c16] at H
                                have c16b0 : (a0.toList == ([102, 111, 111, 116, 101, 114] : List UInt8)) = true := beq_iff_eq.mpr c16
                                have c16b1 : (a0.toList != ([102, 111, 111, 116, 101, 114] : List UInt8)) = false := bne_eq_false_iff_eq.mpr c16
                                clear c16
                                obtain rfl := Option.some.inj H
                                go_enter Try.func31, Try.ntmps31
                                go_wp2
                                go_ret
                                exact ⟨by first | rfl | (simp; done) | (simp [*]; done), by repeat (first | exact Drawn0.refl _ | apply Drawn0.step)⟩
                              · rw [if_neg c16] at H
                                have c16b0 : (a0.toList == ([102, 111, 111, 116, 101, 114] : List UInt8)) = false := beq_eq_false_iff_ne.mpr c16
                                have c16b1 : (a0.toList != ([102, 111, 111, 116, 101, 114] : List UInt8)) = true := bne_iff_ne.mpr c16
                                by_cases c17 : a0.toList = ([102, 111, 114, 109] : List UInt8)
                                · rw [if_pos c17] at H
                                  have c17b0 : (a0.toList == ([102, 111, 114, 109] : List UInt8)) = true := beq_iff_eq.mpr c17
                                  have c17b1 : (a0.toList != ([102, 111, 114, 109] : List UInt8)) = false := bne_eq_false_iff_eq.mpr c17
                                  clear c17
                                  obtain rfl := Option.some.inj H
                                  go_enter Try.func31, Try.ntmps31
                                  go_wp2
                                  go_ret
                                  exact ⟨by first | rfl | (simp; done) | (simp [*]; done), by repeat (first | exact Drawn0.refl _ | apply Drawn0.step)⟩
                                · rw [if_neg c17] at H
                                  have c17b0 : (a0.toList == ([102, 111, 114, 109] : List UInt8)) = false := beq_eq_false_iff_ne.mpr c17
                                  have c17b1 : (a0.toList != ([102, 111, 114, 109] : List UInt8)) = true := bne_iff_ne.mpr c17
                                  by_cases c18 : a0.toList = ([104, 49] : List UInt8)
                                  · rw [if_pos c18] at H
                                    have c18b0 : (a0.toList == ([104, 49] : List UInt8)) = true := beq_iff_eq.mpr c18
                                    have c18b1 : (a0.toList != ([104, 49] : List UInt8)) = false := bne_eq_false_iff_eq.mpr c18
                                    clear c18
                                    obtain rfl := Option.some.inj H
                                    go_enter Try.func31, Try.ntmps31
                                    go_wp2
                                    go_ret
                                    exact ⟨by first | rfl | (simp; done) | (simp [*]; done), by repeat (first | exact Drawn0.refl _ | apply Drawn0.step)⟩
                                  · rw [if_neg c18] at H
                                    have c18b0 : (a0.toList == ([104, 49] : List UInt8)) = false := beq_eq_false_iff_ne.mpr c18
                                    have c18b1 : (a0.toList != ([104, 49] : List UInt8)) = true := bne_iff_ne.mpr c18
                                    by_cases c19 : a0.toList = ([104, 50] : List UInt8)
                                    · rw [if_pos c19] at H
                                      have c19b0 : (a0.toList == ([104, 50] : List UInt8)) = true := beq_iff_eq.mpr c19
                                      have c19b1 : (a0.toList != ([104, 50] : List UInt8)) = false := bne_eq_false_iff_eq.mpr c19
                                      clear c19
                                      obtain rfl := Option.some.inj H
                                      go_enter Try.func31, Try.ntmps31
                                      go_wp2
                                      go_ret
                                      exact ⟨by first | rfl | (simp; done) | (simp [*]; done), by repeat (first | exact Drawn0.refl _ | apply Drawn0.step)⟩
                                    · rw [if_neg c19] at H
                                      have c19b0 : (a0.toList == ([104, 50] : List UInt8)) = false := beq_eq_false_iff_ne.mpr c19
                                      have c19b1 : (a0.toList != ([104, 50] : List UInt8)) = true := bne_iff_ne.mpr c19
                                      by_cases c20 : a0.toList = ([104, 51] : List UInt8)
                                      · rw [if_pos c20] at H
                                        have c20b0 : (a0.toList == ([104, 51] : List UInt8)) = true := beq_iff_eq.mpr c20
                                        have c20b1 : (a0.toList != ([104, 51] : List UInt8)) = false := bne_eq_false_iff_eq.mpr c20
                                        clear c20
                                        obtain rfl := Option.some.inj H
                                        go_enter Try.func31, Try.ntmps31
                                        go_wp2
                                        go_ret
                                        exact ⟨by first | rfl | (simp; done) | (simp [*]; done), by repeat (first | exact Drawn0.refl _ | apply Drawn0.step)⟩
                                      · rw [if_neg c20] at H
                                        have c20b0 : (a0.toList == ([104, 51] : List UInt8)) = false := beq_eq_false_iff_ne.mpr c20
                                        have c20b1 : (a0.toList != ([104, 51] : List UInt8)) = true := bne_iff_ne.mpr c20
                                        by_cases c21 : a0.toList = ([104, 52] : List UInt8)
                                        · rw [if_pos c21] at H
                                          have c21b0 : (a0.toList == ([104, 52] : List UInt8)) = true := beq_iff_eq.mpr c21
                                          have c21b1 : (a0.toList != ([104, 52] : List UInt8)) = false := bne_eq_false_iff_eq.mpr c21
                                          clear c21
                                          obtain rfl := Option.some.inj H
                                          go_enter Try.func31, Try.ntmps31
                                          go_wp2
                                          go_ret
                                          exact ⟨by first | rfl | (simp; done) | (simp [*]; done), by repeat (first | exact Drawn0.refl _ | apply Drawn0.step)⟩
                                        · rw [if_neg c21] at H
                                          have c21b0 : (a0.toList == ([104, 52] : List UInt8)) = false := beq_eq_false_iff_ne.mpr c21
                                          have c21b1 : (a0.toList != ([104, 52] : List UInt8)) = true := bne_iff_ne.mpr c21
                                          by_cases c22 : a0.toList = ([104, 53] : List UInt8)
                                          · rw [if_pos c22] at H
                                            have c22b0 : (a0.toList == ([104, 53] : List UInt8)) = true := beq_iff_eq.mpr c22
                                            have c22b1 : (a0.toList != ([104, 53] : List UInt8)) = false := bne_eq_false_iff_eq.mpr c22
                                            clear c22
                                            obtain rfl := Option.some.inj H
                                            go_enter Try.func31, Try.ntmps31
                                            go_wp2
                                            go_ret
                                            exact ⟨by first | rfl | (simp; done) | (simp [*]; done), by repeat (first | exact Drawn0.refl _ | apply Drawn0.step)⟩
                                          · rw [if_neg c22] at H
                                            have c22b0 : (a0.toList == ([104, 53] : List UInt8)) = false := beq_eq_false_iff_ne.mpr c22
                                            have c22b1 : (a0.toList != ([104, 53] : List UInt8)) = true := bne_iff_ne.mpr c22
                                            by_cases c23 : a0.toList = ([104, 54] : List UInt8)
                                            · rw [if_pos c23] at H
                                              have c23b0 : (a0.toList == ([104, 54] : List UInt8)) = true := beq_iff_eq.mpr c23
                                              have c23b1 : (a0.toList != ([104, 54] : List UInt8)) = false := bne_eq_false_iff_eq.mpr c23
                                              clear c23
                                              obtain rfl := Option.some.inj H
                                              go_enter Try.func31, Try.ntmps31
                                              go_wp2
                                              go_ret
                                              exact ⟨by first | rfl | (simp; done) | (simp [*]; done), by repeat (first | exact Drawn0.refl _ | apply Drawn0.step)⟩
                                            · rw [if_neg c23] at H
                                              have c23b0 : (a0.toList == ([104, 54] : List UInt8)) = false := beq_eq_false_iff_ne.mpr c23
                                              have c23b1 : (a0.toList != ([104, 54] : List UInt8)) = true := bne_iff_ne.mpr c23
                                              by_cases c24 : a0.toList = ([104, 101, 97, 100, 101, 114] : List UInt8)
                                              · rw [if_pos c24] at H
                                                have c24b0 : (a0.toList == ([104, 101, 97, 100, 101, 114] : List UInt8)) = true := beq_iff_eq.mpr c24
                                                have c24b1 : (a0.toList != ([104, 101, 97, 100, 101, 114] : List UInt8)) = false := bne_eq_false_iff_eq.mpr c24
                                                clear c24
                                                obtain rfl := Option.some.inj H
                                                go_enter Try.func31, Try.ntmps31
                                                go_wp2
                                                go_ret
                                                exact ⟨by first | rfl | (simp; done) | (simp [*]; done), by repeat (first | exact Drawn0.refl _ | apply Drawn0.step)⟩
                                              · rw [if_neg c24] at H
                                                have c24b0 : (a0.toList == ([104, 101, 97, 100, 101, 114] : List UInt8)) = false := beq_eq_false_iff_ne.mpr c24
                                                have c24b1 : (a0.toList != ([104, 101, 97, 100, 101, 114] : List UInt8)) = true := bne_iff_ne.mpr c24
                                                by_cases c25 : a0.toList = ([104, 103, 114, 111, 117, 112] : List UInt8)
                                                · rw [if_pos c25] at H
                                                  have c25b0 : (a0.toList == ([104, 103, 114, 111, 117, 112] : List UInt8)) = true := beq_iff_eq.mpr c25
                                                  have c25b1 : (a0.toList != ([104, 103, 114, 111, 117, 112] : List UInt8)) = false := bne_eq_false_iff_eq.mpr c25
                                                  clear c25
                                                  obtain rfl := Option.some.inj H
                                                  go_enter Try.func31, Try.ntmps31
                                                  go_wp2
                                                  go_ret
                                                  exact ⟨by first | rfl | (simp; done) | (simp [*]; done), by repeat (first | exact Drawn0.refl _ | apply Drawn0.step)⟩
                                                · rw [if_neg c25] at H
                                                  have c25b0 : (a0.toList == ([104, 103, 114, 111, 117, 112] : List UInt8)) = false := beq_eq_false_iff_ne.mpr c25
                                                  have c25b1 : (a0.toList != ([104, 103, 114, 111, 117, 112] : List UInt8)) = true := bne_iff_ne.mpr c25
                                                  by_cases c26 : a0.toList = ([104, 114] : List UInt8)
                                                  · rw [if_pos c26] at H
                                                    have c26b0 : (a0.toList == ([104, 114] : List UInt8)) = true := beq_iff_eq.mpr c26
                                                    have c26b1 : (a0.toList != ([104, 114] : List UInt8)) = false := bne_eq_false_iff_eq.mpr c26
                                                    clear c26
                                                    obtain rfl := Option.some.inj H
                                                    go_enter Try.func31, Try.ntmps31
                                                    go_wp2
                                                    go_ret
                                                    exact ⟨by first | rfl | (simp; done) | (simp [*]; done), by repeat (first | exact Drawn0.refl _ | apply Drawn0.step)⟩
                                                  · rw [if_neg c26] at H
                                                    have c26b0 : (a0.toList == ([104, 114] : List UInt8)) = false := beq_eq_false_iff_ne.mpr c26
                                                    have c26b1 : (a0.toList != ([104, 114] : List UInt8)) = true := bne_iff_ne.mpr c26
                                                    by_cases c27 : a0.toList = ([108, 105] : List UInt8)
                                                    · rw [if_pos c27] at H
                                                      have c27b0 : (a0.toList == ([108, 105] : List UInt8)) = true := beq_iff_eq.mpr c27
                                                      have c27b1 : (a0.toList != ([108, 105] : List UInt8)) = false := bne_eq_false_iff_eq.mpr c27
                                                      clear c27
                                                      obtain rfl := Option.some.inj H
                                                      go_enter Try.func31, Try.ntmps31
                                                      go_wp2
                                                      go_ret
                                                      exact ⟨by first | rfl | (simp; done) | (simp [*]; done), by repeat (first | exact Drawn0.refl _ | apply Drawn0.step)⟩
                                                    · rw [if_neg c27] at H
                                                      have c27b0 : (a0.toList == ([108, 105] : List UInt8)) = false := beq_eq_false_iff_ne.mpr c27
                                                      have c27b1 : (a0.toList != ([108, 105] : List UInt8)) = true := bne_iff_ne.mpr c27
                                                      by_cases c28 : a0.toList = ([109, 97, 105, 110] : List UInt8)
                                                      · rw [if_pos c28] at H
                                                        have c28b0 : (a0.toList == ([109, 97, 105, 110] : List UInt8)) = true := beq_iff_eq.mpr c28
                                                        have c28b1 : (a0.toList != ([109, 97, 105, 110] : List UInt8)) = false := bne_eq_false_iff_eq.mpr c28
                                                        clear c28
                                                        obtain rfl := Option.some.inj H
                                                        go_enter Try.func31, Try.ntmps31
                                                        go_wp2
                                                        go_ret
                                                        exact ⟨by first | rfl | (simp; done) | (simp [*]; done), by repeat (first | exact Drawn0.refl _ | apply Drawn0.step)⟩
                                                      · rw [if_neg c28] at H
                                                        have c28b0 : (a0.toList == ([109, 97, 105, 110] : List UInt8)) = false := beq_eq_false_iff_ne.mpr c28
                                                        have c28b1 : (a0.toList != ([109, 97, 105, 110] : List UInt8)) = true := bne_iff_ne.mpr c28
                                                        by_cases c29 : a0.toList = ([110, 97, 118] : List UInt8)
                                                        · rw [if_pos c29] at H
                                                          have c29b0 : (a0.toList == ([110, 97, 118] : List UInt8)) = true := beq_iff_eq.mpr c29
                                                          have c29b1 : (a0.toList != ([110, 97, 118] : List UInt8)) = false := bne_eq_false_iff_eq.mpr c29
                                                          clear c29
                                                          obtain rfl := Option.some.inj H
                                                          go_enter Try.func31, Try.ntmps31
                                                          go_wp2
                                                          go_ret
                                                          exact ⟨by first | rfl | (simp; done) | (simp [*]; done), by repeat (first | exact Drawn0.refl _ | apply Drawn0.step)⟩
                                                        · rw [if_neg c29] at H
                                                          have c29b0 : (a0.toList == ([110, 97, 118] : List UInt8)) = false := beq_eq_false_iff_ne.mpr c29
                                                          have c29b1 : (a0.toList != ([110, 97, 118] : List UInt8)) = true := bne_iff_ne.mpr c29
                                                          by_cases c30 : a0.toList = ([111, 108] : List UInt8)
                                                          · rw [if_pos c30] at H
                                                            have c30b0 : (a0.toList == ([111, 108] : List UInt8)) = true := beq_iff_eq.mpr c30
                                                            have c30b1 : (a0.toList != ([111, 108] : List UInt8)) = false := bne_eq_false_iff_eq.mpr c30
                                                            clear c30
                                                            obtain rfl := Option.some.inj H
                                                            go_enter Try.func31, Try.ntmps31
                                                            go_wp2
                                                            go_ret
                                                            exact ⟨by first | rfl | (simp; done) | (simp [*]; done), by repeat (first | exact Drawn0.refl _ | apply Drawn0.step)⟩
                                                          · rw [if_neg c30] at H
                                                            have c30b0 : (a0.toList == ([111, 108] : List UInt8)) = false := beq_eq_false_iff_ne.mpr c30
                                                            have c30b1 : (a0.toList != ([111, 108] : List UInt8)) = true := bne_iff_ne.mpr c30
                                                            by_cases c31 : a0.toList = ([112] : List UInt8)
                                                            · rw [if_pos c31] at H
                                                              have c31b0 : (a0.toList == ([112] : List UInt8)) = true := beq_iff_eq.mpr c31
                                                              have c31b1 : (a0.toList != ([112] : List UInt8)) = false := bne_eq_false_iff_eq.mpr c31
                                                              clear c31
                                                              obtain rfl := Option.some.inj H
                                                              go_enter Try.func31, Try.ntmps31
                                                              go_wp2
                                                              go_ret
                                                              exact ⟨by first | rfl | (simp; done) | (simp [*]; done), by repeat (first | exact Drawn0.refl _ | apply Drawn0.step)⟩
                                                            · rw [if_neg c31] at H
                                                              have c31b0 : (a0.toList == ([112] : List UInt8)) = false := beq_eq_false_iff_ne.mpr c31
                                                              have c31b1 : (a0.toList != ([112] : List UInt8)) = true := bne_iff_ne.mpr c31
                                                              by_cases c32 : a0.toList = ([112, 114, 101] : List UInt8)
                                                              · rw [if_pos c32] at H
                                                                have c32b0 : (a0.toList == ([112, 114, 101] : List UInt8)) = true := beq_iff_eq.mpr c32
                                                                have c32b1 : (a0.toList != ([112, 114, 101] : List UInt8)) = false := bne_eq_false_iff_eq.mpr c32
                                                                clear c32
                                                                obtain rfl := Option.some.inj H
                                                                go_enter Try.func31, Try.ntmps31
                                                                go_wp2
                                                                go_ret
                                                                exact ⟨by first | rfl | (simp; done) | (simp [*]; done), by repeat (first | exact Drawn0.refl _ | apply Drawn0.step)⟩
                                                              · rw [if_neg c32] at H
                                                                have c32b0 : (a0.toList == ([112, 114, 101] : List UInt8)) = false := beq_eq_false_iff_ne.mpr c32
                                                                have c32b1 : (a0.toList != ([112, 114, 101] : List UInt8)) = true := bne_iff_ne.mpr c32
                                                                by_cases c33 : a0.toList = ([115, 101, 99, 116, 105, 111, 110] : List UInt8)
                                                                · rw [if_pos c33] at H
                                                                  have c33b0 : (a0.toList == ([115, 101, 99, 116, 105, 111, 110] : List UInt8)) = true := beq_iff_eq.mpr c33
                                                                  have c33b1 : (a0.toList != ([115, 101, 99, 116, 105, 111, 110] : List UInt8)) = false := bne_eq_false_iff_eq.mpr c33
                                                                  clear c33
                                                                  obtain rfl := Option.some.inj H
                                                                  go_enter Try.func31, Try.ntmps31
                                                                  go_wp2
                                                                  go_ret
                                                                  exact ⟨by first | rfl | (simp; done) | (simp [*]; done), by repeat (first | exact Drawn0.refl _ | apply Drawn0.step)⟩
                                                                · rw [if_neg c33] at H
                                                                  have c33b0 : (a0.toList == ([115, 101, 99, 116, 105, 111, 110] : List UInt8)) = false := beq_eq_false_iff_ne.mpr c33
                                                                  have c33b1 : (a0.toList != ([115, 101, 99, 116, 105, 111, 110] : List UInt8)) = true := bne_iff_ne.mpr c33
                                                                  by_cases c34 : a0.toList = ([115, 117, 109, 109, 97, 114, 121] : List UInt8)
                                                                  · rw [if_pos c34] at H
                                                                    have c34b0 : (a0.toList == ([115, 117, 109, 109, 97, 114, 121] : List UInt8)) = true := beq_iff_eq.mpr c34
                                                                    have c34b1 : (a0.toList != ([115, 117, 109, 109, 97, 114, 121] : List UInt8)) = false := bne_eq_false_iff_eq.mpr c34
                                                                    clear c34
                                                                    obtain rfl := Option.some.inj H
                                                                    go_enter Try.func31, Try.ntmps31
                                                                    go_wp2
                                                                    go_ret
                                                                    exact ⟨by first | rfl | (simp; done) | (simp [*]; done), by repeat (first | exact Drawn0.refl _ | apply Drawn0.step)⟩
                                                                  · rw [if_neg c34] at H
                                                                    have c34b0 : (a0.toList == ([115, 117, 109, 109, 97, 114, 121] : List UInt8)) = false := beq_eq_false_iff_ne.mpr c34
                                                                    have c34b1 : (a0.toList != ([115, 117, 109, 109, 97, 114, 121] : List UInt8)) = true := bne_iff_ne.mpr c34
                                                                    by_cases c35 : a0.toList = ([116, 97, 98, 108, 101] : List UInt8)
                                                                    · rw [if_pos c35] at H
                                                                      have c35b0 : (a0.toList == ([116, 97, 98, 108, 101] : List UInt8)) = true := beq_iff_eq.mpr c35
                                                                      have c35b1 : (a0.toList != ([116, 97, 98, 108, 101] : List UInt8)) = false := bne_eq_false_iff_eq.mpr c35
                                                                      clear c35
                                                                      obtain rfl := Option.some.inj H
                                                                      go_enter Try.func31, Try.ntmps31
                                                                      go_wp2
                                                                      go_ret
                                                                      exact ⟨by first | rfl | (simp; done) | (simp [*]; done), by repeat (first | exact Drawn0.refl _ | apply Drawn0.step)⟩
                                                                    · rw [if_neg c35] at H
                                                                      have c35b0 : (a0.toList == ([116, 97, 98, 108, 101] : List UInt8)) = false := beq_eq_false_iff_ne.mpr c35
                                                                      have c35b1 : (a0.toList != ([116, 97, 98, 108, 101] : List UInt8)) = true := bne_iff_ne.mpr c35
                                                                      by_cases c36 : a0.toList = ([116, 98, 111, 100, 121] : List UInt8)
                                                                      · rw [if_pos c36] at H
                                                                        have c36b0 : (a0.toList == ([116, 98, 111, 100, 121] : List UInt8)) = true := beq_iff_eq.mpr c36
                                                                        have c36b1 : (a0.toList != ([116, 98, 111, 100, 121] : List UInt8)) = false := bne_eq_false_iff_eq.mpr c36
                                                                        clear c36
                                                                        obtain rfl := Option.some.inj H
                                                                        go_enter Try.func31, Try.ntmps31
                                                                        go_wp2
                                                                        go_ret
                                                                        exact ⟨by first | rfl | (simp; done) | (simp [*]; done), by repeat (first | exact Drawn0.refl _ | apply Drawn0.step)⟩
                                                                      · rw [if_neg c36] at H
                                                                        have c36b0 : (a0.toList == ([116, 98, 111, 100, 121] : List UInt8)) = false := beq_eq_false_iff_ne.mpr c36
                                                                        have c36b1 : (a0.toList != ([116, 98, 111, 100, 121] : List UInt8)) = true := bne_iff_ne.mpr c36
                                                                        by_cases c37 : a0.toList = ([116, 100] : List UInt8)
                                                                        · rw [if_pos c37] at H
                                                                          have c37b0 : (a0.toList == ([116, 100] : List UInt8)) = true := beq_iff_eq.mpr c37
                                                                          have c37b1 : (a0.toList != ([116, 100] : List UInt8)) = false := bne_eq_false_iff_eq.mpr c37
                                                                          clear c37
                                                                          obtain rfl := Option.some.inj H
                                                                          go_enter Try.func31, Try.ntmps31
                                                                          go_wp2
                                                                          go_ret
                                                                          exact ⟨by first | rfl | (simp; done) | (simp [*]; done), by repeat (first | exact Drawn0.refl _ | apply Drawn0.step)⟩
                                                                        · rw [if_neg c37] at H
                                                                          have c37b0 : (a0.toList == ([116, 100] : List UInt8)) = false := beq_eq_false_iff_ne.mpr c37
                                                                          have c37b1 : (a0.toList != ([116, 100] : List UInt8)) = true := bne_iff_ne.mpr c37
                                                                          by_cases c38 : a0.toList = ([116, 102, 111, 111, 116] : List UInt8)
                                                                          · rw [if_pos c38] at H
                                                                            have c38b0 : (a0.toList == ([116, 102, 111, 111, 116] : List UInt8)) = true := beq_iff_eq.mpr c38
                                                                            have c38b1 : (a0.toList != ([116, 102, 111, 111, 116] : List UInt8)) = false := bne_eq_false_iff_eq.mpr c38
                                                                            clear c38
                                                                            obtain rfl := Option.some.inj H
                                                                            go_enter Try.func31, Try.ntmps31
                                                                            go_wp2
                                                                            go_ret
                                                                            exact ⟨by first | rfl | (simp; done) | (simp [*]; done), by repeat (first | exact Drawn0.refl _ | apply Drawn0.step)⟩
                                                                          · rw [if_neg c38] at H
                                                                            have c38b0 : (a0.toList == ([116, 102, 111, 111, 116] : List UInt8)) = false := beq_eq_false_iff_ne.mpr c38
                                                                            have c38b1 : (a0.toList != ([116, 102, 111, 111, 116] : List UInt8)) = true := bne_iff_ne.mpr c38
                                                                            by_cases c39 : a0.toList = ([116, 104] : List UInt8)
                                                                            · rw [if_pos c39] at H
                                                                              have c39b0 : (a0.toList == ([116, 104] : List UInt8)) = true := beq_iff_eq.mpr c39
                                                                              have c39b1 : (a0.toList != ([116, 104] : List UInt8)) = false := bne_eq_false_iff_eq.mpr c39
                                                                              clear c39
                                                                              obtain rfl := Option.some.inj H
                                                                              go_enter Try.func31, Try.ntmps31
                                                                              go_wp2
                                                                              go_ret
                                                                              exact ⟨by first | rfl | (simp; done) | (simp [*]; done), by repeat (first | exact Drawn0.refl _ | apply Drawn0.step)⟩
                                                                            · rw [if_neg c39] at H
                                                                              have c39b0 : (a0.toList == ([116, 104] : List UInt8)) = false := beq_eq_false_iff_ne.mpr c39
                                                                              have c39b1 : (a0.toList != ([116, 104] : List UInt8)) = true := bne_iff_ne.mpr c39
                                                                              by_cases c40 : a0.toList = ([116, 104, 101, 97, 100] : List UInt8)
                                                                              · rw [if_pos c40] at H
                                                                                have c40b0 : (a0.toList == ([116, 104, 101, 97, 100] : List UInt8)) = true := beq_iff_eq.mpr c40
                                                                                have c40b1 : (a0.toList != ([116, 104, 101, 97, 100] : List UInt8)) = false := bne_eq_false_iff_eq.mpr c40
                                                                                clear c40
                                                                                obtain rfl := Option.some.inj H
                                                                                go_enter Try.func31, Try.ntmps31
                                                                                go_wp2
                                                                                go_ret
                                                                                exact ⟨by first | rfl | (simp; done) | (simp [*]; done), by repeat (first | exact Drawn0.refl _ | apply Drawn0.step)⟩
                                                                              · rw [if_neg c40] at H
                                                                                have c40b0 : (a0.toList == ([116, 104, 101, 97, 100] : List UInt8)) = false := beq_eq_false_iff_ne.mpr c40
                                                                                have c40b1 : (a0.toList != ([116, 104, 101, 97, 100] : List UInt8)) = true := bne_iff_ne.mpr c40
                                                                                by_cases c41 : a0.toList = ([116, 114] : List UInt8)
                                                                                · rw [if_pos c41] at H
                                                                                  have c41b0 : (a0.toList == ([116, 114] : List UInt8)) = true := beq_iff_eq.mpr c41
                                                                                  have c41b1 : (a0.toList != ([116, 114] : List UInt8)) = false := bne_eq_false_iff_eq.mpr c41
                                                                                  clear c41
                                                                                  obtain rfl := Option.some.inj H
                                                                                  go_enter Try.func31, Try.ntmps31
                                                                                  go_wp2
                                                                                  go_ret
                                                                                  exact ⟨by first | rfl | (simp; done) | (simp [*]; done), by repeat (first | exact Drawn0.refl _ | apply Drawn0.step)⟩
                                                                                · rw [if_neg c41] at H
                                                                                  have c41b0 : (a0.toList == ([116, 114] : List UInt8)) = false := beq_eq_false_iff_ne.mpr c41
                                                                                  have c41b1 : (a0.toList != ([116, 114] : List UInt8)) = true := bne_iff_ne.mpr c41
                                                                                  by_cases c42 : a0.toList = ([117, 108] : List UInt8)
                                                                                  · rw [if_pos c42] at H
                                                                                    have c42b0 : (a0.toList == ([117, 108] : List UInt8)) = true := beq_iff_eq.mpr c42
                                                                                    have c42b1 : (a0.toList != ([117, 108] : List UInt8)) = false := bne_eq_false_iff_eq.mpr c42
                                                                                    clear c42
                                                                                    obtain rfl := Option.some.inj H
                                                                                    go_enter Try.func31, Try.ntmps31
                                                                                    go_wp2
                                                                                    go_ret
                                                                                    exact ⟨by first | rfl | (simp; done) | (simp [*]; done), by repeat (first | exact Drawn0.refl _ | apply Drawn0.step)⟩
                                                                                  · rw [if_neg c42] at H
                                                                                    have c42b0 : (a0.toList == ([117, 108] : List UInt8)) = false := beq_eq_false_iff_ne.mpr c42
                                                                                    have c42b1 : (a0.toList != ([117, 108] : List UInt8)) = true := bne_iff_ne.mpr c42
                                                                                    obtain rfl := Option.some.inj H
                                                                                    go_enter Try.func31, Try.ntmps31
                                                                                    go_wp2
                                                                                    go_ret
                                                                                    exact ⟨by first | rfl | (simp; done) | (simp [*]; done), by repeat (first | exact Drawn0.refl _ | apply Drawn0.step)⟩

/-! ### impl_Block: function 18 -/
def impl_Block.f (a0 : ByteArray) : Option (Bool) := (hhtml_IsBlockElement.f a0).bind fun t112 => (some t112)
set_option maxHeartbeats 8000000 in
set_option maxRecDepth 100000 in
theorem impl_Block.calls (a0 : ByteArray) (r : Bool) (w : World) (h : impl_Block.f a0 = some r) :
    Calls Try.prog 18 #[.string a0] w fun e w' => e = .returned (.bool r) ∧ Drawn0 w w' := by
  have H : ((hhtml_IsBlockElement.f a0).bind fun t112 => (some t112)) = some r := h
  clear h
  replace H := Option.bind_eq_some_iff.mp H
  obtain ⟨t112, A20, H⟩ := H
  replace H : (some t112) = some r := H
  have A2 := Aside0.mk A20
  clear A20
  obtain rfl := Option.some.inj H
  go_enter Try.func18, Try.ntmps18
  go_wp2_with (first | ((with_reducible refine gate_callee (f := 31) rfl ?_); refine goesL_ (some 4) rfl rfl Try.func31 (by kernel_rfl) rfl #[.string a0] rfl (by (try simp only [List.map_toArray, List.map_cons, List.map_nil]); first | done | rfl | (simp only [List.length_drop, List.length_take]; rfl)) ?_; (with_reducible refine (hhtml_IsBlockElement.calls a0 t112 _ A2.out).mono ?_); rintro e w' ⟨rfl, ⟨nd, rfl⟩⟩; refine ⟨_, rfl, ?_⟩))
  go_ret
  exact ⟨by first | rfl | (simp; done) | (simp [*]; done), by repeat (first | exact Drawn0.refl _ | apply Drawn0.step)⟩

/-! ### spec_Block: function 19 -/
def spec_Block.f (k : Nat) (a0 : ByteArray) : Option (Bool) := (spec_tagListed.f k a0 (([(⟨#[97, 100, 100, 114, 101, 115, 115]⟩ : ByteArray), (⟨#[97, 114, 116, 105, 99, 108, 101]⟩ : ByteArray), (⟨#[97, 115, 105, 100, 101]⟩ : ByteArray), (⟨#[98, 108, 111, 99, 107, 113, 117, 111, 116, 101]⟩ : ByteArray), (⟨#[99, 97, 112, 116, 105, 111, 110]⟩ : ByteArray), (⟨#[100, 100]⟩ : ByteArray), (⟨#[100, 101, 116, 97, 105, 108, 115]⟩ : ByteArray), (⟨#[100, 105, 97, 108, 111, 103]⟩ : ByteArray), (⟨#[100, 105, 118]⟩ : ByteArray), (⟨#[100, 108]⟩ : ByteArray), (⟨#[100, 116]⟩ : ByteArray), (⟨#[102, 105, 101, 108, 100, 115, 101, 116]⟩ : ByteArray), (⟨#[102, 105, 103, 99, 97, 112, 116, 105, 111, 110]⟩ : ByteArray), (⟨#[102, 105, 103, 117, 114, 101]⟩ : ByteArray), (⟨#[102, 111, 111, 116, 101, 114]⟩ : ByteArray), (⟨#[102, 111, 114, 109]⟩ : ByteArray), (⟨#[104, 49]⟩ : ByteArray), (⟨#[104, 50]⟩ : ByteArray), (⟨#[104, 51]⟩ : ByteArray), (⟨#[104, 52]⟩ : ByteArray), (⟨#[104, 53]⟩ : ByteArray), (⟨#[104, 54]⟩ : ByteArray), (⟨#[104, 101, 97, 100, 101, 114]⟩ : ByteArray), (⟨#[104, 103, 114, 111, 117, 112]⟩ : ByteArray), (⟨#[104, 114]⟩ : ByteArray), (⟨#[108, 105]⟩ : ByteArray), (⟨#[109, 97, 105, 110]⟩ : ByteArray), (⟨#[110, 97, 118]⟩ : ByteArray), (⟨#[111, 108]⟩ : ByteArray), (⟨#[112]⟩ : ByteArray), (⟨#[112, 114, 101]⟩ : ByteArray), (⟨#[115, 101, 99, 116, 105, 111, 110]⟩ : ByteArray), (⟨#[115, 117, 109, 109, 97, 114, 121]⟩ : ByteArray), (⟨#[116, 97, 98, 108, 101]⟩ : ByteArray), (⟨#[116, 98, 111, 100, 121]⟩ : ByteArray), (⟨#[116, 100]⟩ : ByteArray), (⟨#[116, 102, 111, 111, 116]⟩ : ByteArray), (⟨#[116, 104]⟩ : ByteArray), (⟨#[116, 104, 101, 97, 100]⟩ : ByteArray), (⟨#[116, 114]⟩ : ByteArray), (⟨#[117, 108]⟩ : ByteArray)] : List ByteArray))).bind fun t116 => (some t116)
theorem spec_Block.mono : ∀ a0 k, LeO (spec_Block.f k a0) (spec_Block.f (k + 1) a0) := by
  intro a0 k
  unfold spec_Block.f
  repeat' first
      | (with_reducible exact spec_tagListed.mono _ _ _)
      | (with_reducible exact LeO.refl _)
      | (with_reducible exact LeO.none _)
      | (with_reducible refine LeO.ite ?_ ?_)
      | (with_reducible refine LeO.bind ?_ (fun _ => ?_))
      | exact spec_tagListed.mono _ _ _
      | exact LeO.none _
      | refine LeO.ite ?_ ?_
      | refine LeO.bind ?_ (fun _ => ?_)
set_option maxHeartbeats 8000000 in
set_option maxRecDepth 100000 in
theorem spec_Block.calls (k : Nat) (a0 : ByteArray) (r : Bool) (w : World) (h : spec_Block.f k a0 = some r) :
    Calls Try.prog 19 #[.string a0] w fun e w' => e = .returned (.bool r) ∧ Below w.heap.size w w' := by
  have HB := Aside0.mk (Below.refl w.heap.size w)
  have H : ((spec_tagListed.f k a0 (([(⟨#[97, 100, 100, 114, 101, 115, 115]⟩ : ByteArray), (⟨#[97, 114, 116, 105, 99, 108, 101]⟩ : ByteArray), (⟨#[97, 115, 105, 100, 101]⟩ : ByteArray), (⟨#[98, 108, 111, 99, 107, 113, 117, 111, 116, 101]⟩ : ByteArray), (⟨#[99, 97, 112, 116, 105, 111, 110]⟩ : ByteArray), (⟨#[100, 100]⟩ : ByteArray), (⟨#[100, 101, 116, 97, 105, 108, 115]⟩ : ByteArray), (⟨#[100, 105, 97, 108, 111, 103]⟩ : ByteArray), (⟨#[100, 105, 118]⟩ : ByteArray), (⟨#[100, 108]⟩ : ByteArray), (⟨#[100, 116]⟩ : ByteArray), (⟨#[102, 105, 101, 108, 100, 115, 101, 116]⟩ : ByteArray), (⟨#[102, 105, 103, 99, 97, 112, 116, 105, 111, 110]⟩ : ByteArray), (⟨#[102, 105, 103, 117, 114, 101]⟩ : ByteArray), (⟨#[102, 111, 111, 116, 101, 114]⟩ : ByteArray), (⟨#[102, 111, 114, 109]⟩ : ByteArray), (⟨#[104, 49]⟩ : ByteArray), (⟨#[104, 50]⟩ : ByteArray), (⟨#[104, 51]⟩ : ByteArray), (⟨#[104, 52]⟩ : ByteArray), (⟨#[104, 53]⟩ : ByteArray), (⟨#[104, 54]⟩ : ByteArray), (⟨#[104, 101, 97, 100, 101, 114]⟩ : ByteArray), (⟨#[104, 103, 114, 111, 117, 112]⟩ : ByteArray), (⟨#[104, 114]⟩ : ByteArray), (⟨#[108, 105]⟩ : ByteArray), (⟨#[109, 97, 105, 110]⟩ : ByteArray), (⟨#[110, 97, 118]⟩ : ByteArray), (⟨#[111, 108]⟩ : ByteArray), (⟨#[112]⟩ : ByteArray), (⟨#[112, 114, 101]⟩ : ByteArray), (⟨#[115, 101, 99, 116, 105, 111, 110]⟩ : ByteArray), (⟨#[115, 117, 109, 109, 97, 114, 121]⟩ : ByteArray), (⟨#[116, 97, 98, 108, 101]⟩ : ByteArray), (⟨#[116, 98, 111, 100, 121]⟩ : ByteArray), (⟨#[116, 100]⟩ : ByteArray), (⟨#[116, 102, 111, 111, 116]⟩ : ByteArray), (⟨#[116, 104]⟩ : ByteArray), (⟨#[116, 104, 101, 97, 100]⟩ : ByteArray), (⟨#[116, 114]⟩ : ByteArray), (⟨#[117, 108]⟩ : ByteArray)] : List ByteArray))).bind fun t116 => (some t116)) = some r := h
  clear h
  obtain ⟨y113, hy113⟩ : ∃ y_ : List ByteArray, y_ = (([(⟨#[97, 100, 100, 114, 101, 115, 115]⟩ : ByteArray), (⟨#[97, 114, 116, 105, 99, 108, 101]⟩ : ByteArray), (⟨#[97, 115, 105, 100, 101]⟩ : ByteArray), (⟨#[98, 108, 111, 99, 107, 113, 117, 111, 116, 101]⟩ : ByteArray), (⟨#[99, 97, 112, 116, 105, 111, 110]⟩ : ByteArray), (⟨#[100, 100]⟩ : ByteArray), (⟨#[100, 101, 116, 97, 105, 108, 115]⟩ : ByteArray), (⟨#[100, 105, 97, 108, 111, 103]⟩ : ByteArray), (⟨#[100, 105, 118]⟩ : ByteArray), (⟨#[100, 108]⟩ : ByteArray), (⟨#[100, 116]⟩ : ByteArray), (⟨#[102, 105, 101, 108, 100, 115, 101, 116]⟩ : ByteArray), (⟨#[102, 105, 103, 99, 97, 112, 116, 105, 111, 110]⟩ : ByteArray), (⟨#[102, 105, 103, 117, 114, 101]⟩ : ByteArray), (⟨#[102, 111, 111, 116, 101, 114]⟩ : ByteArray), (⟨#[102, 111, 114, 109]⟩ : ByteArray), (⟨#[104, 49]⟩ : ByteArray), (⟨#[104, 50]⟩ : ByteArray), (⟨#[104, 51]⟩ : ByteArray), (⟨#[104, 52]⟩ : ByteArray), (⟨#[104, 53]⟩ : ByteArray), (⟨#[104, 54]⟩ : ByteArray), (⟨#[104, 101, 97, 100, 101, 114]⟩ : ByteArray), (⟨#[104, 103, 114, 111, 117, 112]⟩ : ByteArray), (⟨#[104, 114]⟩ : ByteArray), (⟨#[108, 105]⟩ : ByteArray), (⟨#[109, 97, 105, 110]⟩ : ByteArray), (⟨#[110, 97, 118]⟩ : ByteArray), (⟨#[111, 108]⟩ : ByteArray), (⟨#[112]⟩ : ByteArray), (⟨#[112, 114, 101]⟩ : ByteArray), (⟨#[115, 101, 99, 116, 105, 111, 110]⟩ : ByteArray), (⟨#[115, 117, 109, 109, 97, 114, 121]⟩ : ByteArray), (⟨#[116, 97, 98, 108, 101]⟩ : ByteArray), (⟨#[116, 98, 111, 100, 121]⟩ : ByteArray), (⟨#[116, 100]⟩ : ByteArray), (⟨#[116, 102, 111, 111, 116]⟩ : ByteArray), (⟨#[116, 104]⟩ : ByteArray), (⟨#[116, 104, 101, 97, 100]⟩ : ByteArray), (⟨#[116, 114]⟩ : ByteArray), (⟨#[117, 108]⟩ : ByteArray)] : List ByteArray)) := ⟨_, rfl⟩
  replace H : ((spec_tagListed.f k a0 y113).bind fun t116 => (some t116)) = some r := by first | (rw [hy113]; with_reducible exact H) | (have H2_ := (Option.bind_some _ _).symm.trans H; rw [hy113]; with_reducible exact H2_) | (have H2_ := (Option.bind_some _ _).symm.trans H; with_reducible exact H2_) | with_reducible exact H | (rw [hy113]; exact H) | exact H
  have Ny113 := Aside0.mk hy113
  clear hy113
  replace H := Option.bind_eq_some_iff.mp H
  obtain ⟨t116, A20, H⟩ := H
  replace H : (some t116) = some r := H
  have A2 := Aside0.mk A20
  clear A20
  obtain rfl := Option.some.inj H
  go_enter Try.func19, Try.ntmps19
  go_wp2_with (first | ((with_reducible refine gate_dst (N := 4) rfl ?_); refine Kd.R_lit Kd.string _ 9 ?hg (N := 4) ?hd (xs := ([(⟨#[97, 100, 100, 114, 101, 115, 115]⟩ : ByteArray), (⟨#[97, 114, 116, 105, 99, 108, 101]⟩ : ByteArray), (⟨#[97, 115, 105, 100, 101]⟩ : ByteArray), (⟨#[98, 108, 111, 99, 107, 113, 117, 111, 116, 101]⟩ : ByteArray), (⟨#[99, 97, 112, 116, 105, 111, 110]⟩ : ByteArray), (⟨#[100, 100]⟩ : ByteArray), (⟨#[100, 101, 116, 97, 105, 108, 115]⟩ : ByteArray), (⟨#[100, 105, 97, 108, 111, 103]⟩ : ByteArray), (⟨#[100, 105, 118]⟩ : ByteArray), (⟨#[100, 108]⟩ : ByteArray), (⟨#[100, 116]⟩ : ByteArray), (⟨#[102, 105, 101, 108, 100, 115, 101, 116]⟩ : ByteArray), (⟨#[102, 105, 103, 99, 97, 112, 116, 105, 111, 110]⟩ : ByteArray), (⟨#[102, 105, 103, 117, 114, 101]⟩ : ByteArray), (⟨#[102, 111, 111, 116, 101, 114]⟩ : ByteArray), (⟨#[102, 111, 114, 109]⟩ : ByteArray), (⟨#[104, 49]⟩ : ByteArray), (⟨#[104, 50]⟩ : ByteArray), (⟨#[104, 51]⟩ : ByteArray), (⟨#[104, 52]⟩ : ByteArray), (⟨#[104, 53]⟩ : ByteArray), (⟨#[104, 54]⟩ : ByteArray), (⟨#[104, 101, 97, 100, 101, 114]⟩ : ByteArray), (⟨#[104, 103, 114, 111, 117, 112]⟩ : ByteArray), (⟨#[104, 114]⟩ : ByteArray), (⟨#[108, 105]⟩ : ByteArray), (⟨#[109, 97, 105, 110]⟩ : ByteArray), (⟨#[110, 97, 118]⟩ : ByteArray), (⟨#[111, 108]⟩ : ByteArray), (⟨#[112]⟩ : ByteArray), (⟨#[112, 114, 101]⟩ : ByteArray), (⟨#[115, 101, 99, 116, 105, 111, 110]⟩ : ByteArray), (⟨#[115, 117, 109, 109, 97, 114, 121]⟩ : ByteArray), (⟨#[116, 97, 98, 108, 101]⟩ : ByteArray), (⟨#[116, 98, 111, 100, 121]⟩ : ByteArray), (⟨#[116, 100]⟩ : ByteArray), (⟨#[116, 102, 111, 111, 116]⟩ : ByteArray), (⟨#[116, 104]⟩ : ByteArray), (⟨#[116, 104, 101, 97, 100]⟩ : ByteArray), (⟨#[116, 114]⟩ : ByteArray), (⟨#[117, 108]⟩ : ByteArray)] : List ByteArray)) (inner := [.string (⟨#[97, 100, 100, 114, 101, 115, 115]⟩ : ByteArray), .string (⟨#[97, 114, 116, 105, 99, 108, 101]⟩ : ByteArray), .string (⟨#[97, 115, 105, 100, 101]⟩ : ByteArray), .string (⟨#[98, 108, 111, 99, 107, 113, 117, 111, 116, 101]⟩ : ByteArray), .string (⟨#[99, 97, 112, 116, 105, 111, 110]⟩ : ByteArray), .string (⟨#[100, 100]⟩ : ByteArray), .string (⟨#[100, 101, 116, 97, 105, 108, 115]⟩ : ByteArray), .string (⟨#[100, 105, 97, 108, 111, 103]⟩ : ByteArray), .string (⟨#[100, 105, 118]⟩ : ByteArray), .string (⟨#[100, 108]⟩ : ByteArray), .string (⟨#[100, 116]⟩ : ByteArray), .string (⟨#[102, 105, 101, 108, 100, 115, 101, 116]⟩ : ByteArray), .string (⟨#[102, 105, 103, 99, 97, 112, 116, 105, 111, 110]⟩ : ByteArray), .string (⟨#[102, 105, 103, 117, 114, 101]⟩ : ByteArray), .string (⟨#[102, 111, 111, 116, 101, 114]⟩ : ByteArray), .string (⟨#[102, 111, 114, 109]⟩ : ByteArray), .string (⟨#[104, 49]⟩ : ByteArray), .string (⟨#[104, 50]⟩ : ByteArray), .string (⟨#[104, 51]⟩ : ByteArray), .string (⟨#[104, 52]⟩ : ByteArray), .string (⟨#[104, 53]⟩ : ByteArray), .string (⟨#[104, 54]⟩ : ByteArray), .string (⟨#[104, 101, 97, 100, 101, 114]⟩ : ByteArray), .string (⟨#[104, 103, 114, 111, 117, 112]⟩ : ByteArray), .string (⟨#[104, 114]⟩ : ByteArray), .string (⟨#[108, 105]⟩ : ByteArray), .string (⟨#[109, 97, 105, 110]⟩ : ByteArray), .string (⟨#[110, 97, 118]⟩ : ByteArray), .string (⟨#[111, 108]⟩ : ByteArray), .string (⟨#[112]⟩ : ByteArray), .string (⟨#[112, 114, 101]⟩ : ByteArray), .string (⟨#[115, 101, 99, 116, 105, 111, 110]⟩ : ByteArray), .string (⟨#[115, 117, 109, 109, 97, 114, 121]⟩ : ByteArray), .string (⟨#[116, 97, 98, 108, 101]⟩ : ByteArray), .string (⟨#[116, 98, 111, 100, 121]⟩ : ByteArray), .string (⟨#[116, 100]⟩ : ByteArray), .string (⟨#[116, 102, 111, 111, 116]⟩ : ByteArray), .string (⟨#[116, 104]⟩ : ByteArray), .string (⟨#[116, 104, 101, 97, 100]⟩ : ByteArray), .string (⟨#[116, 114]⟩ : ByteArray), .string (⟨#[117, 108]⟩ : ByteArray)]) (ok := fun _ => True) (okp := fun _ => True) ?hr ?hp (fun _ hk => hk) trivial (Below.refl _ _) (Nat.le_refl _) (by simp) ?_; (case hd => rfl); (case hg => rfl); (case hr => first | (go_simp; done) | (go_simp; rfl)); (case hp => exact (Reps.one (show Kd.M Kd.string _ _ _ (⟨#[97, 100, 100, 114, 101, 115, 115]⟩ : ByteArray) [.string (⟨#[97, 100, 100, 114, 101, 115, 115]⟩ : ByteArray)] from rfl) (Reps.one (show Kd.M Kd.string _ _ _ (⟨#[97, 114, 116, 105, 99, 108, 101]⟩ : ByteArray) [.string (⟨#[97, 114, 116, 105, 99, 108, 101]⟩ : ByteArray)] from rfl) (Reps.one (show Kd.M Kd.string _ _ _ (⟨#[97, 115, 105, 100, 101]⟩ : ByteArray) [.string (⟨#[97, 115, 105, 100, 101]⟩ : ByteArray)] from rfl) (Reps.one (show Kd.M Kd.string _ _ _ (⟨#[98, 108, 111, 99, 107, 113, 117, 111, 116, 101]⟩ : ByteArray) [.string (⟨#[98, 108, 111, 99, 107, 113, 117, 111, 116, 101]⟩ : ByteArray)] from rfl) (Reps.one (show Kd.M Kd.string _ _ _ (⟨#[99, 97, 112, 116, 105, 111, 110]⟩ : ByteArray) [.string (⟨#[99, 97, 112, 116, 105, 111, 110]⟩ : ByteArray)] from rfl) (Reps.one (show Kd.M Kd.string _ _ _ (⟨#[100, 100]⟩ : ByteArray) [.string (⟨#[100, 100]⟩ : ByteArray)] from rfl) (Reps.one (show Kd.M Kd.string _ _ _ (⟨#[100, 101, 116, 97, 105, 108, 115]⟩ : ByteArray) [.string (⟨#[100, 101, 116, 97, 105, 108, 115]⟩ : ByteArray)] from rfl) (Reps.one (show Kd.M Kd.string _ _ _ (⟨#[100, 105, 97, 108, 111, 103]⟩ : ByteArray) [.string (⟨#[100, 105, 97, 108, 111, 103]⟩ : ByteArray)] from rfl) (Reps.one (show Kd.M Kd.string _ _ _ (⟨#[100, 105, 118]⟩ : ByteArray) [.string (⟨#[100, 105, 118]⟩ : ByteArray)] from rfl) (Reps.one (show Kd.M Kd.string _ _ _ (⟨#[100, 108]⟩ : ByteArray) [.string (⟨#[100, 108]⟩ : ByteArray)] from rfl) (Reps.one (show Kd.M Kd.string _ _ _ (⟨#[100, 116]⟩ : ByteArray) [.string (⟨#[100, 116]⟩ : ByteArray)] from rfl) (Reps.one (show Kd.M Kd.string _ _ _ (⟨#[102, 105, 101, 108, 100, 115, 101, 116]⟩ : ByteArray) [.string (⟨#[102, 105, 101, 108, 100, 115, 101, 116]⟩ : ByteArray)] from rfl) (Reps.one (show Kd.M Kd.string _ _ _ (⟨#[102, 105, 103, 99, 97, 112, 116, 105, 111, 110]⟩ : ByteArray) [.string (⟨#[102, 105, 103, 99, 97, 112, 116, 105, 111, 110]⟩ : ByteArray)] from rfl) (Reps.one (show Kd.M Kd.string _ _ _ (⟨#[102, 105, 103, 117, 114, 101]⟩ : ByteArray) [.string (⟨#[102, 105, 103, 117, 114, 101]⟩ : ByteArray)] from rfl) (Reps.one (show Kd.M Kd.string _ _ _ (⟨#[102, 111, 111, 116, 101, 114]⟩ : ByteArray) [.string (⟨#[102, 111, 111, 116, 101, 114]⟩ : ByteArray)] from rfl) (Reps.one (show Kd.M Kd.string _ _ _ (⟨#[102, 111, 114, 109]⟩ : ByteArray) [.string (⟨#[102, 111, 114, 109]⟩ : ByteArray)] from rfl) (Reps.one (show Kd.M Kd.string _ _ _ (⟨#[104, 49]⟩ : ByteArray) [.string (⟨#[104, 49]⟩ : ByteArray)] from rfl) (Reps.one (show Kd.M Kd.string _ _ _ (⟨#[104, 50]⟩ : ByteArray) [.string (⟨#[104, 50]⟩ : ByteArray)] from rfl) (Reps.one (show Kd.M Kd.string _ _ _ (⟨#[104, 51]⟩ : ByteArray) [.string (⟨#[104, 51]⟩ : ByteArray)] from rfl) (Reps.one (show Kd.M Kd.string _ _ _ (⟨#[104, 52]⟩ : ByteArray) [.string (⟨#[104, 52]⟩ : ByteArray)] from rfl) (Reps.one (show Kd.M Kd.string _ _ _ (⟨#[104, 53]⟩ : ByteArray) [.string (⟨#[104, 53]⟩ : ByteArray)] from rfl) (Reps.one (show Kd.M Kd.string _ _ _ (⟨#[104, 54]⟩ : ByteArray) [.string (⟨#[104, 54]⟩ : ByteArray)] from rfl) (Reps.one (show Kd.M Kd.string _ _ _ (⟨#[104, 101, 97, 100, 101, 114]⟩ : ByteArray) [.string (⟨#[104, 101, 97, 100, 101, 114]⟩ : ByteArray)] from rfl) (Reps.one (show Kd.M Kd.string _ _ _ (⟨#[104, 103, 114, 111, 117, 112]⟩ : ByteArray) [.string (⟨#[104, 103, 114, 111, 117, 112]⟩ : ByteArray)] from rfl) (Reps.one (show Kd.M Kd.string _ _ _ (⟨#[104, 114]⟩ : ByteArray) [.string (⟨#[104, 114]⟩ : ByteArray)] from rfl) (Reps.one (show Kd.M Kd.string _ _ _ (⟨#[108, 105]⟩ : ByteArray) [.string (⟨#[108, 105]⟩ : ByteArray)] from rfl) (Reps.one (show Kd.M Kd.string _ _ _ (⟨#[109, 97, 105, 110]⟩ : ByteArray) [.string (⟨#[109, 97, 105, 110]⟩ : ByteArray)] from rfl) (Reps.one (show Kd.M Kd.string _ _ _ (⟨#[110, 97, 118]⟩ : ByteArray) [.string (⟨#[110, 97, 118]⟩ : ByteArray)] from rfl) (Reps.one (show Kd.M Kd.string _ _ _ (⟨#[111, 108]⟩ : ByteArray) [.string (⟨#[111, 108]⟩ : ByteArray)] from rfl) (Reps.one (show Kd.M Kd.string _ _ _ (⟨#[112]⟩ : ByteArray) [.string (⟨#[112]⟩ : ByteArray)] from rfl) (Reps.one (show Kd.M Kd.string _ _ _ (⟨#[112, 114, 101]⟩ : ByteArray) [.string (⟨#[112, 114, 101]⟩ : ByteArray)] from rfl) (Reps.one (show Kd.M Kd.string _ _ _ (⟨#[115, 101, 99, 116, 105, 111, 110]⟩ : ByteArray) [.string (⟨#[115, 101, 99, 116, 105, 111, 110]⟩ : ByteArray)] from rfl) (Reps.one (show Kd.M Kd.string _ _ _ (⟨#[115, 117, 109, 109, 97, 114, 121]⟩ : ByteArray) [.string (⟨#[115, 117, 109, 109, 97, 114, 121]⟩ : ByteArray)] from rfl) (Reps.one (show Kd.M Kd.string _ _ _ (⟨#[116, 97, 98, 108, 101]⟩ : ByteArray) [.string (⟨#[116, 97, 98, 108, 101]⟩ : ByteArray)] from rfl) (Reps.one (show Kd.M Kd.string _ _ _ (⟨#[116, 98, 111, 100, 121]⟩ : ByteArray) [.string (⟨#[116, 98, 111, 100, 121]⟩ : ByteArray)] from rfl) (Reps.one (show Kd.M Kd.string _ _ _ (⟨#[116, 100]⟩ : ByteArray) [.string (⟨#[116, 100]⟩ : ByteArray)] from rfl) (Reps.one (show Kd.M Kd.string _ _ _ (⟨#[116, 102, 111, 111, 116]⟩ : ByteArray) [.string (⟨#[116, 102, 111, 111, 116]⟩ : ByteArray)] from rfl) (Reps.one (show Kd.M Kd.string _ _ _ (⟨#[116, 104]⟩ : ByteArray) [.string (⟨#[116, 104]⟩ : ByteArray)] from rfl) (Reps.one (show Kd.M Kd.string _ _ _ (⟨#[116, 104, 101, 97, 100]⟩ : ByteArray) [.string (⟨#[116, 104, 101, 97, 100]⟩ : ByteArray)] from rfl) (Reps.one (show Kd.M Kd.string _ _ _ (⟨#[116, 114]⟩ : ByteArray) [.string (⟨#[116, 114]⟩ : ByteArray)] from rfl) (Reps.one (show Kd.M Kd.string _ _ _ (⟨#[117, 108]⟩ : ByteArray) [.string (⟨#[117, 108]⟩ : ByteArray)] from rfl) (Reps.none _ _))))))))))))))))))))))))))))))))))))))))))); intro v114 w3 ho4 hb hg_ hnew_; clear hg_ hnew_; (first | rw [← Ny113.out] at ho4 | (simp only [Int.reduceToNat] at ho4; rw [← Ny113.out] at ho4)); have n0_ := Aside0.mk (Kd.R_lower ho4 (below_size (by repeat (first | (with_reducible first | exact HB.out | apply below_alloc | apply pw_below_drewN | apply below_drew1) | exact HB.out)))); have n1_ := Aside0.mk (below_step (by repeat (first | (with_reducible first | exact HB.out | apply below_alloc | apply pw_below_drewN | apply below_drew1) | exact HB.out)) hb); clear HB; have HO115 := n0_; have HB := n1_; clear n0_ n1_; clear hb ho4; obtain ⟨Ao5, co5, eo5⟩ := Kd.R_slice HO115.out; subst eo5) | ((with_reducible refine gate_callee (f := 29) rfl ?_); refine goesL_ (some 5) rfl rfl Try.func29 (by kernel_rfl) rfl #[.string a0, .slice Ao5 y113.length co5] rfl (by (try simp only [List.map_toArray, List.map_cons, List.map_nil]); first | done | rfl | (simp only [List.length_drop, List.length_take]; rfl)) ?_; (with_reducible refine (spec_tagListed.calls k a0 _ _ y113 t116 _ ?side1 ?side2 A2.out).mono ?_); (case side1 => repeat (first | exact (Kd.R_reads' HO115.out).2.2 | (with_reducible refine Kd.C_alloc ?_ _) | (with_reducible refine Kd.C_drewN ?_ _) | (with_reducible refine Kd.C_drew ?_))); (case side2 => exact (Kd.R_reads' HO115.out).2.1); rintro e w' ⟨rfl, ⟨nd, rfl⟩⟩; refine ⟨_, rfl, ?_⟩))
  go_ret
  exact ⟨by first | rfl | (simp [errW_none, errW_some] <;> rfl) | (simp [*, errW_none, errW_some] <;> rfl), by repeat (first | (with_reducible first | exact HB.out | apply below_alloc | apply pw_below_drewN | apply below_drew1) | exact HB.out)⟩

/-! ### laws_FnElements: function 5 -/
def laws_FnElements.f (k : Nat) (a0 : ByteArray) : Option (Bool) := if (a0.size : Int) > 2147483647 then (some true) else ((impl_RawText.f a0).bind fun t117 => ((spec_RawText.f k a0).bind fun t118 => (if (t117 == t118) = true then ((impl_Void.f a0).bind fun t119 => ((spec_Void.f k a0).bind fun t120 => (if (t119 == t120) = true then ((impl_Block.f a0).bind fun t121 => ((spec_Block.f k a0).bind fun t122 => (some (t121 == t122)))) else (some false)))) else (some false))))
theorem laws_FnElements.mono : ∀ a0 k, LeO (laws_FnElements.f k a0) (laws_FnElements.f (k + 1) a0) := by
  intro a0 k
  unfold laws_FnElements.f
  repeat' first
      | (with_reducible exact spec_Block.mono _ _)
      | (with_reducible exact spec_RawText.mono _ _)
      | (with_reducible exact spec_Void.mono _ _)
      | (with_reducible exact LeO.refl _)
      | (with_reducible exact LeO.none _)
      | (with_reducible refine LeO.ite ?_ ?_)
      | (with_reducible refine LeO.bind ?_ (fun _ => ?_))
      | exact spec_Block.mono _ _
      | exact spec_RawText.mono _ _
      | exact spec_Void.mono _ _
      | exact LeO.none _
      | refine LeO.ite ?_ ?_
      | refine LeO.bind ?_ (fun _ => ?_)
set_option maxHeartbeats 8000000 in
set_option maxRecDepth 100000 in
theorem laws_FnElements.calls (k : Nat) (a0 : ByteArray) (r : Bool) (w : World) (h : laws_FnElements.f k a0 = some r) :
    Calls Try.prog 5 #[.string a0] w fun e w' => e = .returned (.bool r) ∧ Below w.heap.size w w' := by
  have HB := Aside0.mk (Below.refl w.heap.size w)
  have H : (if (a0.size : Int) > 2147483647 then (some true) else ((impl_RawText.f a0).bind fun t117 => ((spec_RawText.f k a0).bind fun t118 => (if (t117 == t118) = true then ((impl_Void.f a0).bind fun t119 => ((spec_Void.f k a0).bind fun t120 => (if (t119 == t120) = true then ((impl_Block.f a0).bind fun t121 => ((spec_Block.f k a0).bind fun t122 => (some (t121 == t122)))) else (some false)))) else (some false))))) = some r := h
  clear h
  by_cases c2 : (a0.size : Int) > 2147483647
  · rw [if_pos c2] at H
    have c2b0 : decide (2147483647 < (a0.size : Int)) = true := decide_eq_true c2
    have c2b1 : decide (2147483647 < a0.size) = true := decide_eq_true (by omega)
    clear c2
    obtain rfl := Option.some.inj H
    go_enter Try.func5, Try.ntmps5
    go_wp2
    go_ret
    exact ⟨by first | rfl | (simp [errW_none, errW_some] <;> rfl) | (simp [*, errW_none, errW_some] <;> rfl), by repeat (first | (with_reducible first | exact HB.out | apply below_alloc | apply pw_below_drewN | apply below_drew1) | exact HB.out)⟩
  · rw [if_neg c2] at H
    have c2b0 : decide (2147483647 < (a0.size : Int)) = false := decide_eq_false c2
    have c2b1 : decide (2147483647 < a0.size) = false := decide_eq_false (by omega)
    clear c2
    replace H := Option.bind_eq_some_iff.mp H
    obtain ⟨t117, A30, H⟩ := H
    replace H : ((spec_RawText.f k a0).bind fun t118 => (if (t117 == t118) = true then ((impl_Void.f a0).bind fun t119 => ((spec_Void.f k a0).bind fun t120 => (if (t119 == t120) = true then ((impl_Block.f a0).bind fun t121 => ((spec_Block.f k a0).bind fun t122 => (some (t121 == t122)))) else (some false)))) else (some false))) = some r := H
    have A3 := Aside0.mk A30
    clear A30
    replace H := Option.bind_eq_some_iff.mp H
    obtain ⟨t118, A40, H⟩ := H
    replace H : (if (t117 == t118) = true then ((impl_Void.f a0).bind fun t119 => ((spec_Void.f k a0).bind fun t120 => (if (t119 == t120) = true then ((impl_Block.f a0).bind fun t121 => ((spec_Block.f k a0).bind fun t122 => (some (t121 == t122)))) else (some false)))) else (some false)) = some r := H
    have A4 := Aside0.mk A40
    clear A40
    by_cases c5 : (t117 == t118) = true
    · rw [if_pos c5] at H
      have c5b0 : (t117 == t118) = true := c5
      (try (have c5b1 : decide (t117 = t118) = true := by simpa using c5))
      (try (have c5b2 : (t117 == t118) = true := by simpa using c5))
      clear c5
      replace H := Option.bind_eq_some_iff.mp H
      obtain ⟨t119, A60, H⟩ := H
      replace H : ((spec_Void.f k a0).bind fun t120 => (if (t119 == t120) = true then ((impl_Block.f a0).bind fun t121 => ((spec_Block.f k a0).bind fun t122 => (some (t121 == t122)))) else (some false))) = some r := H
      have A6 := Aside0.mk A60
      clear A60
      replace H := Option.bind_eq_some_iff.mp H
      obtain ⟨t120, A70, H⟩ := H
      replace H : (if (t119 == t120) = true then ((impl_Block.f a0).bind fun t121 => ((spec_Block.f k a0).bind fun t122 => (some (t121 == t122)))) else (some false)) = some r := H
      have A7 := Aside0.mk A70
      clear A70
      by_cases c8 : (t119 == t120) = true
      · rw [if_pos c8] at H
        have c8b0 : (t119 == t120) = true := c8
        (try (have c8b1 : decide (t119 = t120) = true := by simpa using c8))
        (try (have c8b2 : (t119 == t120) = true := by simpa using c8))
        clear c8
        replace H := Option.bind_eq_some_iff.mp H
        obtain ⟨t121, A90, H⟩ := H
        replace H : ((spec_Block.f k a0).bind fun t122 => (some (t121 == t122))) = some r := H
        have A9 := Aside0.mk A90
        clear A90
        replace H := Option.bind_eq_some_iff.mp H
        obtain ⟨t122, A100, H⟩ := H
        replace H : (some (t121 == t122)) = some r := H
        have A10 := Aside0.mk A100
        clear A100
        obtain rfl := Option.some.inj H
        go_enter Try.func5, Try.ntmps5
        go_wp2_with (first | ((with_reducible refine gate_callee (f := 14) rfl ?_); refine goesL_ (some 7) rfl rfl Try.func14 (by kernel_rfl) rfl #[.string a0] rfl (by (try simp only [List.map_toArray, List.map_cons, List.map_nil]); first | done | rfl | (simp only [List.length_drop, List.length_take]; rfl)) ?_; (with_reducible refine (impl_RawText.calls a0 t117 _ A3.out).mono ?_); rintro e w' ⟨rfl, ⟨nd, rfl⟩⟩; refine ⟨_, rfl, ?_⟩) | ((with_reducible refine gate_callee (f := 15) rfl ?_); refine goesL_ (some 9) rfl rfl Try.func15 (by kernel_rfl) rfl #[.string a0] rfl (by (try simp only [List.map_toArray, List.map_cons, List.map_nil]); first | done | rfl | (simp only [List.length_drop, List.length_take]; rfl)) ?_; (with_reducible refine (spec_RawText.calls k a0 t118 _ A4.out).mono ?_); rintro e w11 ⟨rfl, hb⟩; refine ⟨_, rfl, ?_⟩; have n0_ := Aside0.mk (below_step (by repeat (first | (with_reducible first | exact HB.out | apply below_alloc | apply pw_below_drewN | apply below_drew1) | exact HB.out)) hb); clear HB; have HB := n0_; clear n0_; (try clear hb); (try clear hb2); (try clear hk); (try clear hi)) | (go_at_call 16; (with_reducible refine (impl_Void.calls a0 t119 _ A6.out).mono ?_); rintro e w' ⟨rfl, ⟨nd, rfl⟩⟩) | (go_at_call 17; (with_reducible refine (spec_Void.calls k a0 t120 _ A7.out).mono ?_); rintro e w12 ⟨rfl, hb⟩; have n0_ := Aside0.mk (below_step (by repeat (first | (with_reducible first | exact HB.out | apply below_alloc | apply pw_below_drewN | apply below_drew1) | exact HB.out)) hb); clear HB; have HB := n0_; clear n0_; (try clear hb); (try clear hb2); (try clear hk); (try clear hi)) | (go_at_call 18; (with_reducible refine (impl_Block.calls a0 t121 _ A9.out).mono ?_); rintro e w' ⟨rfl, ⟨nd, rfl⟩⟩) | (go_at_call 19; (with_reducible refine (spec_Block.calls k a0 t122 _ A10.out).mono ?_); rintro e w13 ⟨rfl, hb⟩; have n0_ := Aside0.mk (below_step (by repeat (first | (with_reducible first | exact HB.out | apply below_alloc | apply pw_below_drewN | apply below_drew1) | exact HB.out)) hb); clear HB; have HB := n0_; clear n0_; (try clear hb); (try clear hb2); (try clear hk); (try clear hi)))
        go_ret
        exact ⟨by first | rfl | (simp [errW_none, errW_some] <;> rfl) | (simp [*, errW_none, errW_some] <;> rfl), by repeat (first | (with_reducible first | exact HB.out | apply below_alloc | apply pw_below_drewN | apply below_drew1) | exact HB.out)⟩
      · rw [if_neg c8] at H
        have c8b0 : (t119 == t120) = false := by simpa using c8
        (try (have c8b1 : decide (t119 = t120) = false := by simpa using c8))
        (try (have c8b2 : (t119 == t120) = false := by simpa using c8))
        (try (have c8b3 : ¬ (t119 = t120) := by simpa using c8))
        clear c8
        obtain rfl := Option.some.inj H
        go_enter Try.func5, Try.ntmps5
        go_wp2_with (first | ((with_reducible refine gate_callee (f := 14) rfl ?_); refine goesL_ (some 7) rfl rfl Try.func14 (by kernel_rfl) rfl #[.string a0] rfl (by (try simp only [List.map_toArray, List.map_cons, List.map_nil]); first | done | rfl | (simp only [List.length_drop, List.length_take]; rfl)) ?_; (with_reducible refine (impl_RawText.calls a0 t117 _ A3.out).mono ?_); rintro e w' ⟨rfl, ⟨nd, rfl⟩⟩; refine ⟨_, rfl, ?_⟩) | ((with_reducible refine gate_callee (f := 15) rfl ?_); refine goesL_ (some 9) rfl rfl Try.func15 (by kernel_rfl) rfl #[.string a0] rfl (by (try simp only [List.map_toArray, List.map_cons, List.map_nil]); first | done | rfl | (simp only [List.length_drop, List.length_take]; rfl)) ?_; (with_reducible refine (spec_RawText.calls k a0 t118 _ A4.out).mono ?_); rintro e w14 ⟨rfl, hb⟩; refine ⟨_, rfl, ?_⟩; have n0_ := Aside0.mk (below_step (by repeat (first | (with_reducible first | exact HB.out | apply below_alloc | apply pw_below_drewN | apply below_drew1) | exact HB.out)) hb); clear HB; have HB := n0_; clear n0_; (try clear hb); (try clear hb2); (try clear hk); (try clear hi)) | (go_at_call 16; (with_reducible refine (impl_Void.calls a0 t119 _ A6.out).mono ?_); rintro e w' ⟨rfl, ⟨nd, rfl⟩⟩) | (go_at_call 17; (with_reducible refine (spec_Void.calls k a0 t120 _ A7.out).mono ?_); rintro e w15 ⟨rfl, hb⟩; have n0_ := Aside0.mk (below_step (by repeat (first | (with_reducible first | exact HB.out | apply below_alloc | apply pw_below_drewN | apply below_drew1) | exact HB.out)) hb); clear HB; have HB := n0_; clear n0_; (try clear hb); (try clear hb2); (try clear hk); (try clear hi)))
        go_ret
        exact ⟨by first | rfl | (simp [errW_none, errW_some] <;> rfl) | (simp [*, errW_none, errW_some] <;> rfl), by repeat (first | (with_reducible first | exact HB.out | apply below_alloc | apply pw_below_drewN | apply below_drew1) | exact HB.out)⟩
    · rw [if_neg c5] at H
      have c5b0 : (t117 == t118) = false := by simpa using c5
      (try (have c5b1 : decide (t117 = t118) = false := by simpa using c5))
      (try (have c5b2 : (t117 == t118) = false := by simpa using c5))
      (try (have c5b3 : ¬ (t117 = t118) := by simpa using c5))
      clear c5
      obtain rfl := Option.some.inj H
      go_enter Try.func5, Try.ntmps5
      go_wp2_with (first | ((with_reducible refine gate_callee (f := 14) rfl ?_); refine goesL_ (some 7) rfl rfl Try.func14 (by kernel_rfl) rfl #[.string a0] rfl (by (try simp only [List.map_toArray, List.map_cons, List.map_nil]); first | done | rfl | (simp only [List.length_drop, List.length_take]; rfl)) ?_; (with_reducible refine (impl_RawText.calls a0 t117 _ A3.out).mono ?_); rintro e w' ⟨rfl, ⟨nd, rfl⟩⟩; refine ⟨_, rfl, ?_⟩) | ((with_reducible refine gate_callee (f := 15) rfl ?_); refine goesL_ (some 9) rfl rfl Try.func15 (by kernel_rfl) rfl #[.string a0] rfl (by (try simp only [List.map_toArray, List.map_cons, List.map_nil]); first | done | rfl | (simp only [List.length_drop, List.length_take]; rfl)) ?_; (with_reducible refine (spec_RawText.calls k a0 t118 _ A4.out).mono ?_); rintro e w16 ⟨rfl, hb⟩; refine ⟨_, rfl, ?_⟩; have n0_ := Aside0.mk (below_step (by repeat (first | (with_reducible first | exact HB.out | apply below_alloc | apply pw_below_drewN | apply below_drew1) | exact HB.out)) hb); clear HB; have HB := n0_; clear n0_; (try clear hb); (try clear hb2); (try clear hk); (try clear hi)))
      go_ret
      exact ⟨by first | rfl | (simp [errW_none, errW_some] <;> rfl) | (simp [*, errW_none, errW_some] <;> rfl), by repeat (first | (with_reducible first | exact HB.out | apply below_alloc | apply pw_below_drewN | apply below_drew1) | exact HB.out)⟩

/-- THE ONE PURE STATEMENT of laws_FnElements: yours. -/
def laws_FnElements.Pure : Prop := ∀ (a0 : ByteArray), a0.size ≤ 140737488351232 → ∃ k, laws_FnElements.f k a0 = some true
theorem laws_FnElements.walk (P : laws_FnElements.Pure) (a0 : ByteArray) (w : World) (w0 : a0.size ≤ 140737488351232) :
    Calls Try.prog 5 #[.string a0] w fun e w' => e = .returned (.bool true) ∧ Below w.heap.size w w' := by
  obtain ⟨k, h⟩ := P a0 w0
  refine (laws_FnElements.calls k a0 true w h).mono ?_
  rintro e w' ⟨rfl, hd⟩
  exact ⟨rfl, hd⟩

end Go.Proofs.Ytelijbnnhgmklaa.PFnElements
