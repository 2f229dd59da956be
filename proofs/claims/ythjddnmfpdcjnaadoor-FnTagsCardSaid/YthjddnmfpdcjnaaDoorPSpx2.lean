/- Printed by a program of this session (a printer turned to take contracts that were proved by hand): functions with the answers of the Go functions, and proofs that the code comes to these answers; no condition beyond what each theorem names. -/
import Derived.Test.YthjddnmfpdcjnaaDoorPSpx0
import Derived.Test.YthjddnmfpdcjnaaDoorPSpx1
namespace Go.Proofs.YthjddnmfpdcjnaaDoor.PSp
open Go.RowKit Go.Proofs.YthjddnmfpdcjnaaDoorW.PrintWords Go.Proofs.YthjddnmfpdcjnaaDoorW.PrintLast Go.Proofs.YthjddnmfpdcjnaaDoorW.PrintMore
attribute [local go_sem] max2_int min2_int max_two min_two max_three min_three max_four min_four   -- for this text's walks alone
set_option linter.unusedVariables false
set_option linter.unusedSimpArgs false

/-! ### spec_tagNext: function 34 -/
mutual
def spec_tagNext.l0 : Nat → ByteArray → Int → Option (Int × ByteArray × Bool × Int × Int × Bool)
  | 0, _, _ => none
  | k + 1, x0, x7 => if (wrap64 (x7 + 1)) < (x0.size : Int) then (if 0 ≤ x7 then (if x7 < (x0.size : Int) then (if (bt x0 x7) = 60 then (if 0 ≤ (wrap64 (x7 + 1)) then ((spec_tagLetter.f (bt x0 (wrap64 (x7 + 1)))).bind fun t108 => (if t108 = true then ((spec_tagName.f k x0 (wrap64 (x7 + 1))).bind fun bt109 => ((spec_tagClose.f k x0 bt109.2).bind fun t111 => (if t111 = (x0.size : Int) then (some (1, bt109.1, false, x7, t111, true)) else (if 0 ≤ (wrap64 (t111 - 1)) then (if (wrap64 (t111 - 1)) < (x0.size : Int) then (some (1, bt109.1, ((bt x0 (wrap64 (t111 - 1))) == 47), x7, wrap64 (t111 + 1), true)) else (none)) else (none))))) else (if (bt x0 (wrap64 (x7 + 1))) = 47 then (if (wrap64 (x7 + 2)) = (x0.size : Int) then (spec_tagNext.j1 k x0 x7 (bt x0 (wrap64 (x7 + 1))) true) else (if 0 ≤ (wrap64 (x7 + 2)) then (if (wrap64 (x7 + 2)) < (x0.size : Int) then ((spec_tagLetter.f (bt x0 (wrap64 (x7 + 2)))).bind fun t112 => (spec_tagNext.j1 k x0 x7 (bt x0 (wrap64 (x7 + 1))) t112)) else (none)) else (none))) else (spec_tagNext.j1 k x0 x7 (bt x0 (wrap64 (x7 + 1))) false)))) else (none)) else (spec_tagNext.l0 k x0 (wrap64 (x7 + 1)))) else (none)) else (none)) else (some (0, (⟨#[]⟩ : ByteArray), false, 0, (x0.size : Int), false))
def spec_tagNext.j1 : Nat → ByteArray → Int → Int → Bool → Option (Int × ByteArray × Bool × Int × Int × Bool)
  | 0, _, _, _, _ => none
  | k + 1, x0, x7, x8, x61 => if x61 = true then ((spec_tagName.f k x0 (wrap64 (x7 + 2))).bind fun bt113 => ((spec_tagClose.f k x0 bt113.2).bind fun t115 => (some (2, bt113.1, false, x7, mn (wrap64 (t115 + 1)) (x0.size : Int), true)))) else ((spec_tagAt.f x0 x7 (⟨#[60, 33, 45, 45]⟩ : ByteArray)).bind fun t116 => (if t116 = true then ((spec_tagFind.f k x0 (wrap64 (x7 + 4)) (⟨#[45, 45, 62]⟩ : ByteArray)).bind fun t117 => (some (3, (⟨#[]⟩ : ByteArray), false, x7, t117, true))) else ((spec_tagAt.f x0 x7 (⟨#[60, 33, 91, 67, 68, 65, 84, 65, 91]⟩ : ByteArray)).bind fun t118 => (if t118 = true then ((spec_tagFind.f k x0 (wrap64 (x7 + 9)) (⟨#[93, 93, 62]⟩ : ByteArray)).bind fun t119 => (some (3, (⟨#[]⟩ : ByteArray), false, x7, t119, true))) else (if x8 = 33 then ((spec_tagFind.f k x0 (wrap64 (x7 + 2)) (⟨#[62]⟩ : ByteArray)).bind fun t120 => (some (3, (⟨#[]⟩ : ByteArray), false, x7, t120, true))) else (if x8 = 63 then ((spec_tagFind.f k x0 (wrap64 (x7 + 2)) (⟨#[62]⟩ : ByteArray)).bind fun t121 => (some (3, (⟨#[]⟩ : ByteArray), false, x7, t121, true))) else (if x8 = 47 then ((spec_tagFind.f k x0 (wrap64 (x7 + 2)) (⟨#[62]⟩ : ByteArray)).bind fun t122 => (some (3, (⟨#[]⟩ : ByteArray), false, x7, t122, true))) else (spec_tagNext.l0 k x0 (wrap64 (x7 + 1))))))))))
end
def spec_tagNext.f (k : Nat) (a0 : ByteArray) (a1 : Int) : Option (Int × ByteArray × Bool × Int × Int × Bool) := spec_tagNext.l0 k a0 a1
theorem spec_tagNext.mono_l : ∀ k, (∀ y0 y1, LeO (spec_tagNext.l0 k y0 y1) (spec_tagNext.l0 (k + 1) y0 y1)) ∧ (∀ y0 y1 y2 y3, LeO (spec_tagNext.j1 k y0 y1 y2 y3) (spec_tagNext.j1 (k + 1) y0 y1 y2 y3))
  | 0 => ⟨fun _ _ r h => by simp [spec_tagNext.l0] at h, fun _ _ _ _ r h => by simp [spec_tagNext.j1] at h⟩
  | k + 1 => by
    obtain ⟨ih0, ih1⟩ := spec_tagNext.mono_l k
    refine ⟨?_, ?_⟩
    · intro y0 y1
      unfold spec_tagNext.l0
      repeat' first
      | (with_reducible exact ih0 _ _)
      | (with_reducible exact ih1 _ _ _ _)
      | (with_reducible exact spec_tagClose.mono _ _ _)
      | (with_reducible exact spec_tagFind.mono _ _ _ _)
      | (with_reducible exact spec_tagName.mono _ _ _)
      | (with_reducible exact LeO.refl _)
      | (with_reducible exact LeO.none _)
      | (with_reducible refine LeO.ite ?_ ?_)
      | (with_reducible refine LeO.bind ?_ (fun _ => ?_))
      | exact ih0 _ _
      | exact ih1 _ _ _ _
      | exact spec_tagClose.mono _ _ _
      | exact spec_tagFind.mono _ _ _ _
      | exact spec_tagName.mono _ _ _
      | exact LeO.none _
      | refine LeO.ite ?_ ?_
      | refine LeO.bind ?_ (fun _ => ?_)
    · intro y0 y1 y2 y3
      unfold spec_tagNext.j1
      repeat' first
      | (with_reducible exact ih0 _ _)
      | (with_reducible exact ih1 _ _ _ _)
      | (with_reducible exact spec_tagClose.mono _ _ _)
      | (with_reducible exact spec_tagFind.mono _ _ _ _)
      | (with_reducible exact spec_tagName.mono _ _ _)
      | (with_reducible exact LeO.refl _)
      | (with_reducible exact LeO.none _)
      | (with_reducible refine LeO.ite ?_ ?_)
      | (with_reducible refine LeO.bind ?_ (fun _ => ?_))
      | exact ih0 _ _
      | exact ih1 _ _ _ _
      | exact spec_tagClose.mono _ _ _
      | exact spec_tagFind.mono _ _ _ _
      | exact spec_tagName.mono _ _ _
      | exact LeO.none _
      | refine LeO.ite ?_ ?_
      | refine LeO.bind ?_ (fun _ => ?_)
theorem spec_tagNext.mono : ∀ a0 a1 k, LeO (spec_tagNext.f k a0 a1) (spec_tagNext.f (k + 1) a0 a1) := by
  intro a0 a1 k
  obtain ⟨ih0, ih1⟩ := spec_tagNext.mono_l k
  unfold spec_tagNext.f
  repeat' first
      | (with_reducible exact ih0 _ _)
      | (with_reducible exact ih1 _ _ _ _)
      | (with_reducible exact spec_tagClose.mono _ _ _)
      | (with_reducible exact spec_tagFind.mono _ _ _ _)
      | (with_reducible exact spec_tagName.mono _ _ _)
      | (with_reducible exact LeO.refl _)
      | (with_reducible exact LeO.none _)
      | (with_reducible refine LeO.ite ?_ ?_)
      | (with_reducible refine LeO.bind ?_ (fun _ => ?_))
      | exact ih0 _ _
      | exact ih1 _ _ _ _
      | exact spec_tagClose.mono _ _ _
      | exact spec_tagFind.mono _ _ _ _
      | exact spec_tagName.mono _ _ _
      | exact LeO.none _
      | refine LeO.ite ?_ ?_
      | refine LeO.bind ?_ (fun _ => ?_)
set_option maxHeartbeats 8000000 in
set_option maxRecDepth 100000 in
theorem spec_tagNext.calls (k : Nat) (a0 : ByteArray) (a1 : Int) (r1 : Int) (r2 : ByteArray) (r3 : Bool) (r4 : Int) (r5 : Int) (r6 : Bool) (w : World) (h : spec_tagNext.f k a0 a1 = some (r1, r2, r3, r4, r5, r6)) :
    Calls Tryd.prog 34 #[.string a0, .int .i64 a1] w fun e w' => e = .returned (.tuple #[.agg #[.int .i64 r1, .string r2, .bool r3, .int .i64 r4], .int .i64 r5, .bool r6]) ∧ Below w.heap.size w w' := by
  have hu30 := Tryd.underlying30
  have HB := Aside0.mk (Below.refl w.heap.size w)
  have H : (spec_tagNext.l0 k a0 a1) = some (r1, r2, r3, r4, r5, r6) := h
  clear h
  have H' := Aside0.mk H
  clear H
  go_enter Tryd.func34, Tryd.ntmps34
  go_wp2_with (first | ((with_reducible refine gate_dst (N := 4) rfl ?_); (try (refine gate_guard (by rfl) ?_; dsimp only)); refine box_event ?hg (N := 4) ?hd (cs := #[.int .i64 0, .string (⟨#[]⟩ : ByteArray), .bool false, .int .i64 0]) (t := 30) ?hr ?_; (case hd => rfl); (case hg => rfl); (case hr => first | (go_simp; done) | (go_simp; rfl)); intro gb107 hg w3 hbox hb; have n0_ := Aside0.mk (below_step (by repeat (first | (with_reducible first | exact HB.out | apply below_alloc | apply pw_below_drewN | apply below_drew1) | exact HB.out)) hb); have n1_ := Aside0.mk (hbox); have n2_ := Aside0.mk ((by rw [hg]; exact (below_size (by repeat (first | (with_reducible first | exact HB.out | apply below_alloc | apply pw_below_drewN | apply below_drew1) | exact HB.out))) : w.heap.size ≤ gb107)); have n3_ := Aside0.mk ((by rw [hg]; exact (below_size (by repeat (first | (with_reducible first | exact HB.out | apply below_alloc | apply pw_below_drewN | apply below_drew1) | exact HB.out))) : w.heap.size ≤ gb107)); clear HB; have HB := n0_; have BK107 := n1_; have GW107 := n2_; have GE107 := n3_; clear n0_ n1_ n2_ n3_; clear hb hbox hg))
  try simp only [Act.put, List.setIfInBounds_toArray, List.set_cons_succ, List.set_cons_zero]
  go_loopg [7] k (fun kq v7 w' => ∃ (x7_1 : Int) (x108000_1 : Int) (x108001_1 : ByteArray) (x108002_1 : Bool) (x108003_1 : Int), v7 = .int .i64 x7_1 ∧ Aside0 (spec_tagNext.l0 kq a0 x7_1 = some (r1, r2, r3, r4, r5, r6)) ∧ Aside0 (kq ≤ k) ∧ Aside0 (w'.heap[gb107]? = some (.cells #[.int .i64 x108000_1, .string x108001_1, .bool x108002_1, .int .i64 x108003_1] 30 (0, 0))) ∧ Aside0 (Below w.heap.size w w'))
  case atStart => exact ⟨(a1), (0), ((⟨#[]⟩ : ByteArray)), (false), (0), (by first | rfl | (simp; done) | (simp [*]; done)), H', ⟨Nat.le_refl _⟩, ⟨by (with_reducible repeat (first | refine blk_drewN ?_ _ | refine blk_drew ?_ | refine blk_alloc ?_ _)); exact BK107.out⟩, ⟨by repeat (first | (with_reducible first | exact HB.out | apply below_alloc | apply pw_below_drewN | apply below_drew1 | refine below_set ?_ GE107.out) | exact HB.out)⟩⟩
  case round =>
    clear H'
    try clear p2
    try clear c3
    obtain ⟨x7_1, x108000_1, x108001_1, x108002_1, x108003_1, rfl, HA, HK1, BK107, HB⟩ := hrel
    cases gk with
    | zero => exact absurd HA.out (by simp [spec_tagNext.l0])
    | succ k1 =>
      have H := HA.out
      clear HA
      simp only [spec_tagNext.l0] at H
      by_cases c4 : (wrap64 (x7_1 + 1)) < (a0.size : Int)
      · rw [if_pos c4] at H
        have c4b0 : decide ((wrap64 (x7_1 + 1)) < (a0.size : Int)) = true := decide_eq_true c4
        clear c4
        by_cases c5 : 0 ≤ x7_1
        · rw [if_pos c5] at H
          have c5b0 : decide (0 ≤ x7_1) = true := decide_eq_true c5
          clear c5
          by_cases c6 : x7_1 < (a0.size : Int)
          · rw [if_pos c6] at H
            have c6b0 : decide (x7_1 < (a0.size : Int)) = true := decide_eq_true c6
            clear c6
            by_cases c8 : (bt a0 x7_1) = 60
            · rw [if_pos c8] at H
              have c8b0 : ((bt a0 x7_1) == 60) = true := beq_iff_eq.mpr c8
              have c8b1 : ((bt a0 x7_1) != 60) = false := bne_eq_false_iff_eq.mpr c8
              clear c8
              obtain ⟨ji9, hji9⟩ : ∃ j_ : Int, (wrap64 (x7_1 + 1)) = j_ := ⟨_, rfl⟩
              replace H : (if 0 ≤ (ji9) then ((spec_tagLetter.f (bt a0 (ji9))).bind fun t108 => (if t108 = true then ((spec_tagName.f k1 a0 (ji9)).bind fun bt109 => ((spec_tagClose.f k1 a0 bt109.2).bind fun t111 => (if t111 = (a0.size : Int) then (some (1, bt109.1, false, x7_1, t111, true)) else (if 0 ≤ (wrap64 (t111 - 1)) then (if (wrap64 (t111 - 1)) < (a0.size : Int) then (some (1, bt109.1, ((bt a0 (wrap64 (t111 - 1))) == 47), x7_1, wrap64 (t111 + 1), true)) else (none)) else (none))))) else (if (bt a0 (ji9)) = 47 then (if (wrap64 (x7_1 + 2)) = (a0.size : Int) then (spec_tagNext.j1 k1 a0 x7_1 (bt a0 (ji9)) true) else (if 0 ≤ (wrap64 (x7_1 + 2)) then (if (wrap64 (x7_1 + 2)) < (a0.size : Int) then ((spec_tagLetter.f (bt a0 (wrap64 (x7_1 + 2)))).bind fun t112 => (spec_tagNext.j1 k1 a0 x7_1 (bt a0 (ji9)) t112)) else (none)) else (none))) else (spec_tagNext.j1 k1 a0 x7_1 (bt a0 (ji9)) false)))) else (none)) = some (r1, r2, r3, r4, r5, r6) := by first | (rw [hji9] at H; exact H) | (simp only [hji9] at H ⊢; exact H)
              (try rw [hji9] at c4b0)
              have hji9w : (IntKind.i64.wrap (x7_1 + 1)) = ji9 := (i64_w _).trans hji9
              by_cases c10 : 0 ≤ (ji9)
              · rw [if_pos c10] at H
                have c10b0 : decide (0 ≤ (ji9)) = true := decide_eq_true c10
                clear c10
                replace H := Option.bind_eq_some_iff.mp H
                obtain ⟨t108, A120, H⟩ := H
                replace H : (if t108 = true then ((spec_tagName.f k1 a0 (ji9)).bind fun bt109 => ((spec_tagClose.f k1 a0 bt109.2).bind fun t111 => (if t111 = (a0.size : Int) then (some (1, bt109.1, false, x7_1, t111, true)) else (if 0 ≤ (wrap64 (t111 - 1)) then (if (wrap64 (t111 - 1)) < (a0.size : Int) then (some (1, bt109.1, ((bt a0 (wrap64 (t111 - 1))) == 47), x7_1, wrap64 (t111 + 1), true)) else (none)) else (none))))) else (if (bt a0 (ji9)) = 47 then (if (wrap64 (x7_1 + 2)) = (a0.size : Int) then (spec_tagNext.j1 k1 a0 x7_1 (bt a0 (ji9)) true) else (if 0 ≤ (wrap64 (x7_1 + 2)) then (if (wrap64 (x7_1 + 2)) < (a0.size : Int) then ((spec_tagLetter.f (bt a0 (wrap64 (x7_1 + 2)))).bind fun t112 => (spec_tagNext.j1 k1 a0 x7_1 (bt a0 (ji9)) t112)) else (none)) else (none))) else (spec_tagNext.j1 k1 a0 x7_1 (bt a0 (ji9)) false))) = some (r1, r2, r3, r4, r5, r6) := H
                have A12 := Aside0.mk A120
                clear A120
                by_cases c13 : t108 = true
                · subst c13
                  have H1 : ((spec_tagName.f k1 a0 (ji9)).bind fun bt109 => ((spec_tagClose.f k1 a0 bt109.2).bind fun t111 => (if t111 = (a0.size : Int) then (some (1, bt109.1, false, x7_1, t111, true)) else (if 0 ≤ (wrap64 (t111 - 1)) then (if (wrap64 (t111 - 1)) < (a0.size : Int) then (some (1, bt109.1, ((bt a0 (wrap64 (t111 - 1))) == 47), x7_1, wrap64 (t111 + 1), true)) else (none)) else (none))))) = some (r1, r2, r3, r4, r5, r6) := by rw [if_pos rfl] at H; exact H
                  clear H
                  have H := H1
                  clear H1
                  replace H := Option.bind_eq_some_iff.mp H
                  obtain ⟨⟨t109, t110⟩, A140, H⟩ := H
                  replace H : ((spec_tagClose.f k1 a0 t110).bind fun t111 => (if t111 = (a0.size : Int) then (some (1, t109, false, x7_1, t111, true)) else (if 0 ≤ (wrap64 (t111 - 1)) then (if (wrap64 (t111 - 1)) < (a0.size : Int) then (some (1, t109, ((bt a0 (wrap64 (t111 - 1))) == 47), x7_1, wrap64 (t111 + 1), true)) else (none)) else (none)))) = some (r1, r2, r3, r4, r5, r6) := H
                  have A14 := Aside0.mk A140
                  clear A140
                  replace H := Option.bind_eq_some_iff.mp H
                  obtain ⟨t111, A150, H⟩ := H
                  replace H : (if t111 = (a0.size : Int) then (some (1, t109, false, x7_1, t111, true)) else (if 0 ≤ (wrap64 (t111 - 1)) then (if (wrap64 (t111 - 1)) < (a0.size : Int) then (some (1, t109, ((bt a0 (wrap64 (t111 - 1))) == 47), x7_1, wrap64 (t111 + 1), true)) else (none)) else (none))) = some (r1, r2, r3, r4, r5, r6) := H
                  have A15 := Aside0.mk A150
                  clear A150
                  by_cases c16 : t111 = (a0.size : Int)
                  · rw [if_pos c16] at H
                    have c16b0 : (t111 == (a0.size : Int)) = true := beq_iff_eq.mpr c16
                    have c16b1 : (t111 != (a0.size : Int)) = false := bne_eq_false_iff_eq.mpr c16
                    clear c16
                    simp only [Option.some.injEq, Prod.mk.injEq] at H
                    obtain ⟨rfl, rfl, rfl, rfl, rfl, rfl⟩ := H
                    have p7 : 0 ≤ (x7_1 : Int) := of_decide_eq_true (by first | (with_reducible assumption) | assumption)
                    have q7 : x7_1 < (a0.size : Int) := of_decide_eq_true (by first | (with_reducible assumption) | assumption)
                    have hx7 := bt_at a0 x7_1
                    replace p7 := eq_true p7
                    replace q7 := eq_true q7
                    have p11 : 0 ≤ ((ji9) : Int) := of_decide_eq_true (by first | (with_reducible assumption) | assumption)
                    have q11 : (ji9) < (a0.size : Int) := of_decide_eq_true (by first | (with_reducible assumption) | assumption)
                    have hx11 := bt_at a0 (ji9)
                    replace p11 := eq_true p11
                    replace q11 := eq_true q11
                    go_wp2_with (first | ((with_reducible refine gate_callee (f := 44) rfl ?_); refine goesL_ (some 32) rfl rfl Tryd.func44 (by kernel_rfl) rfl #[.int .u8 (bt a0 (ji9))] rfl (by (try simp only [List.map_toArray, List.map_cons, List.map_nil]); first | done | (simp only [hji9]; rfl) | rfl | (simp only [List.length_drop, List.length_take]; rfl)) ?_; (with_reducible refine (spec_tagLetter.calls (bt a0 (ji9)) true _ A12.out).mono ?_); rintro e w' ⟨rfl, ⟨nd, rfl⟩⟩; refine ⟨_, rfl, ?_⟩; (try (rw [drewN_self wr]; generalize hq_ : World.drewN wr _ = wr; have n0_ : Aside0 (wr.heap[gb107]? = some (.cells #[.int .i64 x108000_1, .string x108001_1, .bool x108002_1, .int .i64 x108003_1] 30 (0, 0))) := ⟨by rw [← hq_]; exact (by (with_reducible repeat (first | refine blk_drewN ?_ _ | refine blk_drew ?_ | refine blk_alloc ?_ _)); exact BK107.out)⟩; have n1_ : Aside0 (Below w.heap.size w wr) := ⟨by rw [← hq_]; exact (by repeat (first | (with_reducible first | exact HB.out | apply below_alloc | apply pw_below_drewN | apply below_drew1 | refine below_set ?_ GE107.out) | exact HB.out))⟩; clear BK107 HB hq_; have BK107 := n0_; have HB := n1_; clear n0_ n1_))) | ((with_reducible refine gate_callee (f := 45) rfl ?_); refine goesL_ (some 37) rfl rfl Tryd.func45 (by kernel_rfl) rfl #[.string a0, .int .i64 ji9] rfl (by (try simp only [List.map_toArray, List.map_cons, List.map_nil]); first | done | (simp only [hji9]; rfl) | rfl | (simp only [List.length_drop, List.length_take]; rfl)) ?_; (with_reducible refine (spec_tagName.calls k1 a0 ji9 t109 t110 _ A14.out).mono ?_); rintro e w17 ⟨rfl, hb⟩; refine ⟨_, rfl, ?_⟩; have n0_ := Aside0.mk (blk_below (g := gb107) (o := .cells #[.int .i64 x108000_1, .string x108001_1, .bool x108002_1, .int .i64 x108003_1] 30 (0, 0)) (by (with_reducible repeat (first | refine blk_drewN ?_ _ | refine blk_drew ?_ | refine blk_alloc ?_ _)); exact BK107.out) hb); have n1_ := Aside0.mk (below_step (by repeat (first | (with_reducible first | exact HB.out | apply below_alloc | apply pw_below_drewN | apply below_drew1 | refine below_set ?_ GE107.out) | exact HB.out)) hb); clear BK107; clear HB; have BK107 := n0_; have HB := n1_; clear n0_ n1_; (try clear hb); (try clear hb2); (try clear hk); (try clear hi)) | ((with_reducible refine gate_callee (f := 46) rfl ?_); refine goesL_ (some 42) rfl rfl Tryd.func46 (by kernel_rfl) rfl #[.string a0, .int .i64 t110] rfl (by (try simp only [List.map_toArray, List.map_cons, List.map_nil]); first | done | rfl | (simp only [List.length_drop, List.length_take]; rfl)) ?_; (with_reducible refine (spec_tagClose.calls k1 a0 t110 t111 _ A15.out).mono ?_); rintro e w' ⟨rfl, ⟨nd, rfl⟩⟩; refine ⟨_, rfl, ?_⟩; (try (rw [drewN_self w17]; generalize hq_ : World.drewN w17 _ = w17; have n0_ : Aside0 (w17.heap[gb107]? = some (.cells #[.int .i64 x108000_1, .string x108001_1, .bool x108002_1, .int .i64 x108003_1] 30 (0, 0))) := ⟨by rw [← hq_]; exact (by (with_reducible repeat (first | refine blk_drewN ?_ _ | refine blk_drew ?_ | refine blk_alloc ?_ _)); exact BK107.out)⟩; have n1_ : Aside0 (Below w.heap.size w w17) := ⟨by rw [← hq_]; exact (by repeat (first | (with_reducible first | exact HB.out | apply below_alloc | apply pw_below_drewN | apply below_drew1 | refine below_set ?_ GE107.out) | exact HB.out))⟩; clear BK107 HB hq_; have BK107 := n0_; have HB := n1_; clear n0_ n1_)); have hcz18_0 : w17.cell? ⟨gb107, 0, none⟩ = some (.int .i64 x108000_1) := (blk_cell BK107.out 0).trans rfl; have hcz18_1 : w17.cell? ⟨gb107, 1, none⟩ = some (.string x108001_1) := (blk_cell BK107.out 1).trans rfl; have hcz18_2 : w17.cell? ⟨gb107, 2, none⟩ = some (.bool x108002_1) := (blk_cell BK107.out 2).trans rfl; have hcz18_3 : w17.cell? ⟨gb107, 3, none⟩ = some (.int .i64 x108003_1) := (blk_cell BK107.out 3).trans rfl; have hfz18_0 := blk_frozen BK107.out 0; have hfz18_1 := blk_frozen BK107.out 1; have hfz18_2 := blk_frozen BK107.out 2; have hfz18_3 := blk_frozen BK107.out 3))
                    refine bodyPost_ret (results_ctt rfl _ _ gb107 30 #[.int .i64 1, .string t109, .bool false, .int .i64 x7_1] (0, 0) _ rfl (by (with_reducible repeat (first | refine blk_drewN ?_ _ | refine blk_drew ?_ | refine blk_alloc ?_ _)); refine blk_put (cs := #[.int .i64 1, .string t109, .bool false, .int .i64 x108003_1]) ?_ 3 _ rfl; (with_reducible repeat (first | refine blk_drewN ?_ _ | refine blk_drew ?_ | refine blk_alloc ?_ _)); refine blk_put (cs := #[.int .i64 1, .string t109, .bool x108002_1, .int .i64 x108003_1]) ?_ 2 _ rfl; (with_reducible repeat (first | refine blk_drewN ?_ _ | refine blk_drew ?_ | refine blk_alloc ?_ _)); refine blk_put (cs := #[.int .i64 1, .string x108001_1, .bool x108002_1, .int .i64 x108003_1]) ?_ 1 _ rfl; (with_reducible repeat (first | refine blk_drewN ?_ _ | refine blk_drew ?_ | refine blk_alloc ?_ _)); refine blk_put (cs := #[.int .i64 x108000_1, .string x108001_1, .bool x108002_1, .int .i64 x108003_1]) ?_ 0 _ rfl; (with_reducible repeat (first | refine blk_drewN ?_ _ | refine blk_drew ?_ | refine blk_alloc ?_ _)); exact BK107.out) Tryd.underlying30 rfl (by kernel_rfl)) rfl ?_
                    exact ⟨by first | rfl | (simp [errW_none, errW_some] <;> rfl) | (simp only [← hji9]; first | rfl | (simp [errW_none, errW_some] <;> rfl)) | (simp [*, errW_none, errW_some] <;> rfl), by repeat (first | (with_reducible first | exact HB.out | apply below_alloc | apply pw_below_drewN | apply below_drew1 | refine below_set ?_ GE107.out) | exact HB.out)⟩
                  · rw [if_neg c16] at H
                    have c16b0 : (t111 == (a0.size : Int)) = false := beq_eq_false_iff_ne.mpr c16
                    have c16b1 : (t111 != (a0.size : Int)) = true := bne_iff_ne.mpr c16
                    obtain ⟨ji19, hji19⟩ : ∃ j_ : Int, (wrap64 (t111 - 1)) = j_ := ⟨_, rfl⟩
                    replace H : (if 0 ≤ (ji19) then (if (ji19) < (a0.size : Int) then (some (1, t109, ((bt a0 (ji19)) == 47), x7_1, wrap64 (t111 + 1), true)) else (none)) else (none)) = some (r1, r2, r3, r4, r5, r6) := by first | (rw [hji19] at H; exact H) | (simp only [hji19] at H ⊢; exact H)
                    (try rw [hji19] at A12)
                    (try rw [hji19] at A14)
                    (try rw [hji19] at A15)
                    have hji19w : (IntKind.i64.wrap (t111 - 1)) = ji19 := (i64_w _).trans hji19
                    by_cases c20 : 0 ≤ (ji19)
                    · rw [if_pos c20] at H
                      have c20b0 : decide (0 ≤ (ji19)) = true := decide_eq_true c20
                      clear c20
                      by_cases c21 : (ji19) < (a0.size : Int)
                      · rw [if_pos c21] at H
                        have c21b0 : decide ((ji19) < (a0.size : Int)) = true := decide_eq_true c21
                        clear c21
                        simp only [Option.some.injEq, Prod.mk.injEq] at H
                        obtain ⟨rfl, rfl, rfl, rfl, rfl, rfl⟩ := H
                        have p7 : 0 ≤ (x7_1 : Int) := of_decide_eq_true (by first | (with_reducible assumption) | assumption)
                        have q7 : x7_1 < (a0.size : Int) := of_decide_eq_true (by first | (with_reducible assumption) | assumption)
                        have hx7 := bt_at a0 x7_1
                        replace p7 := eq_true p7
                        replace q7 := eq_true q7
                        have p11 : 0 ≤ ((ji9) : Int) := of_decide_eq_true (by first | (with_reducible assumption) | assumption)
                        have q11 : (ji9) < (a0.size : Int) := of_decide_eq_true (by first | (with_reducible assumption) | assumption)
                        have hx11 := bt_at a0 (ji9)
                        replace p11 := eq_true p11
                        replace q11 := eq_true q11
                        go_wp2_with (first | ((with_reducible refine gate_callee (f := 44) rfl ?_); refine goesL_ (some 32) rfl rfl Tryd.func44 (by kernel_rfl) rfl #[.int .u8 (bt a0 (ji9))] rfl (by (try simp only [List.map_toArray, List.map_cons, List.map_nil]); first | done | (simp only [hji9]; rfl) | rfl | (simp only [List.length_drop, List.length_take]; rfl)) ?_; (with_reducible refine (spec_tagLetter.calls (bt a0 (ji9)) true _ A12.out).mono ?_); rintro e w' ⟨rfl, ⟨nd, rfl⟩⟩; refine ⟨_, rfl, ?_⟩; (try (rw [drewN_self wr]; generalize hq_ : World.drewN wr _ = wr; have n0_ : Aside0 (wr.heap[gb107]? = some (.cells #[.int .i64 x108000_1, .string x108001_1, .bool x108002_1, .int .i64 x108003_1] 30 (0, 0))) := ⟨by rw [← hq_]; exact (by (with_reducible repeat (first | refine blk_drewN ?_ _ | refine blk_drew ?_ | refine blk_alloc ?_ _)); exact BK107.out)⟩; have n1_ : Aside0 (Below w.heap.size w wr) := ⟨by rw [← hq_]; exact (by repeat (first | (with_reducible first | exact HB.out | apply below_alloc | apply pw_below_drewN | apply below_drew1 | refine below_set ?_ GE107.out) | exact HB.out))⟩; clear BK107 HB hq_; have BK107 := n0_; have HB := n1_; clear n0_ n1_))) | ((with_reducible refine gate_callee (f := 45) rfl ?_); refine goesL_ (some 37) rfl rfl Tryd.func45 (by kernel_rfl) rfl #[.string a0, .int .i64 ji9] rfl (by (try simp only [List.map_toArray, List.map_cons, List.map_nil]); first | done | (simp only [hji9]; rfl) | rfl | (simp only [List.length_drop, List.length_take]; rfl)) ?_; (with_reducible refine (spec_tagName.calls k1 a0 ji9 t109 t110 _ A14.out).mono ?_); rintro e w23 ⟨rfl, hb⟩; refine ⟨_, rfl, ?_⟩; have n0_ := Aside0.mk (blk_below (g := gb107) (o := .cells #[.int .i64 x108000_1, .string x108001_1, .bool x108002_1, .int .i64 x108003_1] 30 (0, 0)) (by (with_reducible repeat (first | refine blk_drewN ?_ _ | refine blk_drew ?_ | refine blk_alloc ?_ _)); exact BK107.out) hb); have n1_ := Aside0.mk (below_step (by repeat (first | (with_reducible first | exact HB.out | apply below_alloc | apply pw_below_drewN | apply below_drew1 | refine below_set ?_ GE107.out) | exact HB.out)) hb); clear BK107; clear HB; have BK107 := n0_; have HB := n1_; clear n0_ n1_; (try clear hb); (try clear hb2); (try clear hk); (try clear hi)) | ((with_reducible refine gate_callee (f := 46) rfl ?_); refine goesL_ (some 42) rfl rfl Tryd.func46 (by kernel_rfl) rfl #[.string a0, .int .i64 t110] rfl (by (try simp only [List.map_toArray, List.map_cons, List.map_nil]); first | done | rfl | (simp only [List.length_drop, List.length_take]; rfl)) ?_; (with_reducible refine (spec_tagClose.calls k1 a0 t110 t111 _ A15.out).mono ?_); rintro e w' ⟨rfl, ⟨nd, rfl⟩⟩; refine ⟨_, rfl, ?_⟩; (try (rw [drewN_self w23]; generalize hq_ : World.drewN w23 _ = w23; have n0_ : Aside0 (w23.heap[gb107]? = some (.cells #[.int .i64 x108000_1, .string x108001_1, .bool x108002_1, .int .i64 x108003_1] 30 (0, 0))) := ⟨by rw [← hq_]; exact (by (with_reducible repeat (first | refine blk_drewN ?_ _ | refine blk_drew ?_ | refine blk_alloc ?_ _)); exact BK107.out)⟩; have n1_ : Aside0 (Below w.heap.size w w23) := ⟨by rw [← hq_]; exact (by repeat (first | (with_reducible first | exact HB.out | apply below_alloc | apply pw_below_drewN | apply below_drew1 | refine below_set ?_ GE107.out) | exact HB.out))⟩; clear BK107 HB hq_; have BK107 := n0_; have HB := n1_; clear n0_ n1_)); have p22 : 0 ≤ ((ji19) : Int) := of_decide_eq_true (by first | (with_reducible assumption) | assumption); have q22 : (ji19) < (a0.size : Int) := of_decide_eq_true (by first | (with_reducible assumption) | assumption); have hx22 := bt_at a0 (ji19); replace p22 := eq_true p22; replace q22 := eq_true q22; have hcz24_0 : w23.cell? ⟨gb107, 0, none⟩ = some (.int .i64 x108000_1) := (blk_cell BK107.out 0).trans rfl; have hcz24_1 : w23.cell? ⟨gb107, 1, none⟩ = some (.string x108001_1) := (blk_cell BK107.out 1).trans rfl; have hcz24_2 : w23.cell? ⟨gb107, 2, none⟩ = some (.bool x108002_1) := (blk_cell BK107.out 2).trans rfl; have hcz24_3 : w23.cell? ⟨gb107, 3, none⟩ = some (.int .i64 x108003_1) := (blk_cell BK107.out 3).trans rfl; have hfz24_0 := blk_frozen BK107.out 0; have hfz24_1 := blk_frozen BK107.out 1; have hfz24_2 := blk_frozen BK107.out 2; have hfz24_3 := blk_frozen BK107.out 3))
                        refine bodyPost_ret (results_ctt rfl _ _ gb107 30 #[.int .i64 1, .string t109, .bool ((bt a0 (ji19)) == 47), .int .i64 x7_1] (0, 0) _ rfl (by (with_reducible repeat (first | refine blk_drewN ?_ _ | refine blk_drew ?_ | refine blk_alloc ?_ _)); refine blk_put (cs := #[.int .i64 1, .string t109, .bool ((bt a0 (ji19)) == 47), .int .i64 x108003_1]) ?_ 3 _ rfl; (with_reducible repeat (first | refine blk_drewN ?_ _ | refine blk_drew ?_ | refine blk_alloc ?_ _)); refine blk_put (cs := #[.int .i64 1, .string t109, .bool x108002_1, .int .i64 x108003_1]) ?_ 2 _ rfl; (with_reducible repeat (first | refine blk_drewN ?_ _ | refine blk_drew ?_ | refine blk_alloc ?_ _)); refine blk_put (cs := #[.int .i64 1, .string x108001_1, .bool x108002_1, .int .i64 x108003_1]) ?_ 1 _ rfl; (with_reducible repeat (first | refine blk_drewN ?_ _ | refine blk_drew ?_ | refine blk_alloc ?_ _)); refine blk_put (cs := #[.int .i64 x108000_1, .string x108001_1, .bool x108002_1, .int .i64 x108003_1]) ?_ 0 _ rfl; (with_reducible repeat (first | refine blk_drewN ?_ _ | refine blk_drew ?_ | refine blk_alloc ?_ _)); exact BK107.out) Tryd.underlying30 rfl (by kernel_rfl)) rfl ?_
                        exact ⟨by first | rfl | (simp [errW_none, errW_some] <;> rfl) | (simp only [← hji9, ← hji19]; first | rfl | (simp [errW_none, errW_some] <;> rfl)) | (simp [*, errW_none, errW_some] <;> rfl), by repeat (first | (with_reducible first | exact HB.out | apply below_alloc | apply pw_below_drewN | apply below_drew1 | refine below_set ?_ GE107.out) | exact HB.out)⟩
                      · rw [if_neg c21] at H
                        exact absurd H (by simp)
                    · rw [if_neg c20] at H
                      exact absurd H (by simp)
                · replace c13 := Bool.eq_false_iff.mpr c13
                  subst c13
                  have H1 : (if (bt a0 (ji9)) = 47 then (if (wrap64 (x7_1 + 2)) = (a0.size : Int) then (spec_tagNext.j1 k1 a0 x7_1 (bt a0 (ji9)) true) else (if 0 ≤ (wrap64 (x7_1 + 2)) then (if (wrap64 (x7_1 + 2)) < (a0.size : Int) then ((spec_tagLetter.f (bt a0 (wrap64 (x7_1 + 2)))).bind fun t112 => (spec_tagNext.j1 k1 a0 x7_1 (bt a0 (ji9)) t112)) else (none)) else (none))) else (spec_tagNext.j1 k1 a0 x7_1 (bt a0 (ji9)) false)) = some (r1, r2, r3, r4, r5, r6) := by rw [if_neg (show ¬ (false = true) by decide)] at H; exact H
                  clear H
                  have H := H1
                  clear H1
                  have HC25 := Aside0.mk H
                  clear H
                  have p7 : 0 ≤ (x7_1 : Int) := of_decide_eq_true (by first | (with_reducible assumption) | assumption)
                  have q7 : x7_1 < (a0.size : Int) := of_decide_eq_true (by first | (with_reducible assumption) | assumption)
                  have hx7 := bt_at a0 x7_1
                  replace p7 := eq_true p7
                  replace q7 := eq_true q7
                  have p11 : 0 ≤ ((ji9) : Int) := of_decide_eq_true (by first | (with_reducible assumption) | assumption)
                  have q11 : (ji9) < (a0.size : Int) := of_decide_eq_true (by first | (with_reducible assumption) | assumption)
                  have hx11 := bt_at a0 (ji9)
                  replace p11 := eq_true p11
                  replace q11 := eq_true q11
                  go_upto_region 12 with (first | ((with_reducible refine gate_callee (f := 44) rfl ?_); refine goesL_ (some 32) rfl rfl Tryd.func44 (by kernel_rfl) rfl #[.int .u8 (bt a0 (ji9))] rfl (by (try simp only [List.map_toArray, List.map_cons, List.map_nil]); first | done | (simp only [hji9]; rfl) | rfl | (simp only [List.length_drop, List.length_take]; rfl)) ?_; (with_reducible refine (spec_tagLetter.calls (bt a0 (ji9)) false _ A12.out).mono ?_); rintro e w' ⟨rfl, ⟨nd, rfl⟩⟩; refine ⟨_, rfl, ?_⟩))
                  (try simp only [Act.put, List.setIfInBounds_toArray, List.set_cons_zero, List.set_cons_succ])
                  go_cut [61] (fun v61 wc => ∃ (kq : Nat) (x61_24 : Bool), v61 = .bool x61_24 ∧ Aside0 (spec_tagNext.j1 kq a0 x7_1 (bt a0 (ji9)) x61_24 = some (r1, r2, r3, r4, r5, r6)) ∧ Aside0 (kq ≤ k1) ∧ Aside0 (wc.heap[gb107]? = some (.cells #[.int .i64 x108000_1, .string x108001_1, .bool x108002_1, .int .i64 x108003_1] 30 (0, 0))) ∧ Aside0 (Below w.heap.size w wc))
                  case first =>
                    have H := HC25.out
                    clear HC25
                    by_cases c26 : (bt a0 (ji9)) = 47
                    · rw [if_pos c26] at H
                      have c26b0 : ((bt a0 (ji9)) == 47) = true := beq_iff_eq.mpr c26
                      have c26b1 : ((bt a0 (ji9)) != 47) = false := bne_eq_false_iff_eq.mpr c26
                      clear c26
                      (first | rw [c26b0] | (simp only [i64_w, i32_w]; rw [c26b0]) | skip)
                      by_cases c27 : (wrap64 (x7_1 + 2)) = (a0.size : Int)
                      · rw [if_pos c27] at H
                        have c27b0 : ((wrap64 (x7_1 + 2)) == (a0.size : Int)) = true := beq_iff_eq.mpr c27
                        have c27b1 : ((wrap64 (x7_1 + 2)) != (a0.size : Int)) = false := bne_eq_false_iff_eq.mpr c27
                        clear c27
                        have H' := Aside0.mk H
                        clear H
                        go_wp2
                        go_meet
                        case rel => exact ⟨_, (true), (by first | rfl | (simp; done) | (simp [*]; done)), H', ⟨by have := HK1.out; first | omega | exact Nat.le_refl _⟩, ⟨by (with_reducible repeat (first | refine blk_drewN ?_ _ | refine blk_drew ?_ | refine blk_alloc ?_ _)); exact BK107.out⟩, ⟨by repeat (first | (with_reducible first | exact HB.out | apply below_alloc | apply pw_below_drewN | apply below_drew1 | refine below_set ?_ GE107.out) | exact HB.out)⟩⟩
                      · rw [if_neg c27] at H
                        have c27b0 : ((wrap64 (x7_1 + 2)) == (a0.size : Int)) = false := beq_eq_false_iff_ne.mpr c27
                        have c27b1 : ((wrap64 (x7_1 + 2)) != (a0.size : Int)) = true := bne_iff_ne.mpr c27
                        obtain ⟨ji28, hji28⟩ : ∃ j_ : Int, (wrap64 (x7_1 + 2)) = j_ := ⟨_, rfl⟩
                        replace H : (if 0 ≤ (ji28) then (if (ji28) < (a0.size : Int) then ((spec_tagLetter.f (bt a0 (ji28))).bind fun t112 => (spec_tagNext.j1 k1 a0 x7_1 (bt a0 (ji9)) t112)) else (none)) else (none)) = some (r1, r2, r3, r4, r5, r6) := by first | (rw [hji28] at H; exact H) | (simp only [hji28] at H ⊢; exact H)
                        (try rw [hji28] at c27b0)
                        (try rw [hji28] at c27b1)
                        have hji28w : (IntKind.i64.wrap (x7_1 + 2)) = ji28 := (i64_w _).trans hji28
                        by_cases c29 : 0 ≤ (ji28)
                        · rw [if_pos c29] at H
                          have c29b0 : decide (0 ≤ (ji28)) = true := decide_eq_true c29
                          clear c29
                          by_cases c30 : (ji28) < (a0.size : Int)
                          · rw [if_pos c30] at H
                            have c30b0 : decide ((ji28) < (a0.size : Int)) = true := decide_eq_true c30
                            clear c30
                            replace H := Option.bind_eq_some_iff.mp H
                            obtain ⟨t112, A320, H⟩ := H
                            replace H : (spec_tagNext.j1 k1 a0 x7_1 (bt a0 (ji9)) t112) = some (r1, r2, r3, r4, r5, r6) := H
                            have A32 := Aside0.mk A320
                            clear A320
                            have H' := Aside0.mk H
                            clear H
                            have p31 : 0 ≤ ((ji28) : Int) := of_decide_eq_true (by first | (with_reducible assumption) | assumption)
                            have q31 : (ji28) < (a0.size : Int) := of_decide_eq_true (by first | (with_reducible assumption) | assumption)
                            have hx31 := bt_at a0 (ji28)
                            replace p31 := eq_true p31
                            replace q31 := eq_true q31
                            go_wp2_with (first | (go_at_call 44; (with_reducible refine (spec_tagLetter.calls (bt a0 (ji28)) t112 _ A32.out).mono ?_); rintro e w' ⟨rfl, ⟨nd, rfl⟩⟩))
                            go_meet
                            case rel => exact ⟨_, (t112), (by first | rfl | (simp; done) | (simp [*]; done)), H', ⟨by have := HK1.out; first | omega | exact Nat.le_refl _⟩, ⟨by (with_reducible repeat (first | refine blk_drewN ?_ _ | refine blk_drew ?_ | refine blk_alloc ?_ _)); exact BK107.out⟩, ⟨by repeat (first | (with_reducible first | exact HB.out | apply below_alloc | apply pw_below_drewN | apply below_drew1 | refine below_set ?_ GE107.out) | exact HB.out)⟩⟩
                          · rw [if_neg c30] at H
                            exact absurd H (by simp)
                        · rw [if_neg c29] at H
                          exact absurd H (by simp)
                    · rw [if_neg c26] at H
                      have c26b0 : ((bt a0 (ji9)) == 47) = false := beq_eq_false_iff_ne.mpr c26
                      have c26b1 : ((bt a0 (ji9)) != 47) = true := bne_iff_ne.mpr c26
                      (first | rw [c26b0] | (simp only [i64_w, i32_w]; rw [c26b0]) | skip)
                      have H' := Aside0.mk H
                      clear H
                      go_wp2
                      go_meet
                      case rel => exact ⟨_, (false), (by first | rfl | (simp; done) | (simp [*]; done)), H', ⟨by have := HK1.out; first | omega | exact Nat.le_refl _⟩, ⟨by (with_reducible repeat (first | refine blk_drewN ?_ _ | refine blk_drew ?_ | refine blk_alloc ?_ _)); exact BK107.out⟩, ⟨by repeat (first | (with_reducible first | exact HB.out | apply below_alloc | apply pw_below_drewN | apply below_drew1 | refine below_set ?_ GE107.out) | exact HB.out)⟩⟩
                  case rest =>
                    clear HC25
                    try clear c1
                    try clear p1
                    try clear q1
                    try clear hx1
                    try clear c2
                    try clear p2
                    try clear q2
                    try clear hx2
                    try clear c3
                    try clear p3
                    try clear q3
                    try clear hx3
                    try clear c4
                    try clear c4b0
                    try clear c5
                    try clear c5b0
                    try clear c6
                    try clear c6b0
                    try clear p6
                    try clear p7
                    try clear q7
                    try clear hx7
                    try clear c8
                    try clear c8b0
                    try clear c8b1
                    try clear c10
                    try clear c10b0
                    try clear p11
                    try clear q11
                    try clear hx11
                    try clear c13
                    try clear c16
                    try clear c16b0
                    try clear c16b1
                    try clear c20
                    try clear c20b0
                    try clear c21
                    try clear c21b0
                    try clear p22
                    try clear q22
                    try clear hx22
                    try clear c26
                    try clear c26b0
                    try clear c26b1
                    try clear c27
                    try clear c27b0
                    try clear c27b1
                    try clear c29
                    try clear c29b0
                    try clear c30
                    try clear c30b0
                    try clear p31
                    try clear q31
                    try clear hx31
                    try clear hcz18_0
                    try clear hcz18_1
                    try clear hcz18_2
                    try clear hcz18_3
                    try clear hcz24_0
                    try clear hcz24_1
                    try clear hcz24_2
                    try clear hcz24_3
                    try clear hfz18_0
                    try clear hfz18_1
                    try clear hfz18_2
                    try clear hfz18_3
                    try clear hfz24_0
                    try clear hfz24_1
                    try clear hfz24_2
                    try clear hfz24_3
                    try clear p11
                    try clear p2
                    try clear p22
                    try clear p31
                    try clear p7
                    try clear q11
                    try clear q22
                    try clear q31
                    try clear q7
                    obtain ⟨kq, x61_24, rfl, HA, HJ24, BK107, HB⟩ := hcut
                    cases kq with
                    | zero => exact absurd HA.out (by simp [spec_tagNext.j1])
                    | succ kj24 =>
                      have H := HA.out
                      clear HA
                      simp only [spec_tagNext.j1] at H
                      by_cases c33 : x61_24 = true
                      · subst c33
                        have H1 : ((spec_tagName.f kj24 a0 (wrap64 (x7_1 + 2))).bind fun bt113 => ((spec_tagClose.f kj24 a0 bt113.2).bind fun t115 => (some (2, bt113.1, false, x7_1, mn (wrap64 (t115 + 1)) (a0.size : Int), true)))) = some (r1, r2, r3, r4, r5, r6) := by rw [if_pos rfl] at H; exact H
                        clear H
                        have H := H1
                        clear H1
                        replace H := Option.bind_eq_some_iff.mp H
                        obtain ⟨⟨t113, t114⟩, A340, H⟩ := H
                        replace H : ((spec_tagClose.f kj24 a0 t114).bind fun t115 => (some (2, t113, false, x7_1, mn (wrap64 (t115 + 1)) (a0.size : Int), true))) = some (r1, r2, r3, r4, r5, r6) := H
                        have A34 := Aside0.mk A340
                        clear A340
                        replace H := Option.bind_eq_some_iff.mp H
                        obtain ⟨t115, A350, H⟩ := H
                        replace H : (some (2, t113, false, x7_1, mn (wrap64 (t115 + 1)) (a0.size : Int), true)) = some (r1, r2, r3, r4, r5, r6) := H
                        have A35 := Aside0.mk A350
                        clear A350
                        obtain ⟨ji36, hji36⟩ : ∃ j_ : Int, (mn (wrap64 (t115 + 1)) (a0.size : Int)) = j_ := ⟨_, rfl⟩
                        replace H : (some (2, t113, false, x7_1, ji36, true)) = some (r1, r2, r3, r4, r5, r6) := by first | (rw [hji36] at H; exact H) | (simp only [hji36] at H ⊢; exact H)
                        (try rw [hji36] at A34)
                        (try rw [hji36] at A35)
                        have hji36_ : (if (a0.size : Int) < (wrap64 (t115 + 1)) then (a0.size : Int) else (wrap64 (t115 + 1))) = ji36 := hji36
                        simp only [Option.some.injEq, Prod.mk.injEq] at H
                        obtain ⟨rfl, rfl, rfl, rfl, rfl, rfl⟩ := H
                        go_wp2_with (first | ((with_reducible refine gate_callee (f := 45) rfl ?_); refine goesL_ (some 82) rfl rfl Tryd.func45 (by kernel_rfl) rfl #[.string a0, .int .i64 (wrap64 (x7_1 + 2))] rfl (by (try simp only [List.map_toArray, List.map_cons, List.map_nil]); first | done | rfl | (simp only [List.length_drop, List.length_take]; rfl)) ?_; (with_reducible refine (spec_tagName.calls kj24 a0 (wrap64 (x7_1 + 2)) t113 t114 _ A34.out).mono ?_); rintro e w37 ⟨rfl, hb⟩; refine ⟨_, rfl, ?_⟩; have n0_ := Aside0.mk (blk_below (g := gb107) (o := .cells #[.int .i64 x108000_1, .string x108001_1, .bool x108002_1, .int .i64 x108003_1] 30 (0, 0)) (by (with_reducible repeat (first | refine blk_drewN ?_ _ | refine blk_drew ?_ | refine blk_alloc ?_ _)); exact BK107.out) hb); have n1_ := Aside0.mk (below_step (by repeat (first | (with_reducible first | exact HB.out | apply below_alloc | apply pw_below_drewN | apply below_drew1 | refine below_set ?_ GE107.out) | exact HB.out)) hb); clear BK107; clear HB; have BK107 := n0_; have HB := n1_; clear n0_ n1_; (try clear hb); (try clear hb2); (try clear hk); (try clear hi)) | ((with_reducible refine gate_callee (f := 46) rfl ?_); refine goesL_ (some 90) rfl rfl Tryd.func46 (by kernel_rfl) rfl #[.string a0, .int .i64 t114] rfl (by (try simp only [List.map_toArray, List.map_cons, List.map_nil]); first | done | rfl | (simp only [List.length_drop, List.length_take]; rfl)) ?_; (with_reducible refine (spec_tagClose.calls kj24 a0 t114 t115 _ A35.out).mono ?_); rintro e w' ⟨rfl, ⟨nd, rfl⟩⟩; refine ⟨_, rfl, ?_⟩; (try (rw [drewN_self w37]; generalize hq_ : World.drewN w37 _ = w37; have n0_ : Aside0 (w37.heap[gb107]? = some (.cells #[.int .i64 x108000_1, .string x108001_1, .bool x108002_1, .int .i64 x108003_1] 30 (0, 0))) := ⟨by rw [← hq_]; exact (by (with_reducible repeat (first | refine blk_drewN ?_ _ | refine blk_drew ?_ | refine blk_alloc ?_ _)); exact BK107.out)⟩; have n1_ : Aside0 (Below w.heap.size w w37) := ⟨by rw [← hq_]; exact (by repeat (first | (with_reducible first | exact HB.out | apply below_alloc | apply pw_below_drewN | apply below_drew1 | refine below_set ?_ GE107.out) | exact HB.out))⟩; clear BK107 HB hq_; have BK107 := n0_; have HB := n1_; clear n0_ n1_)); have hcz38_0 : w37.cell? ⟨gb107, 0, none⟩ = some (.int .i64 x108000_1) := (blk_cell BK107.out 0).trans rfl; have hcz38_1 : w37.cell? ⟨gb107, 1, none⟩ = some (.string x108001_1) := (blk_cell BK107.out 1).trans rfl; have hcz38_2 : w37.cell? ⟨gb107, 2, none⟩ = some (.bool x108002_1) := (blk_cell BK107.out 2).trans rfl; have hcz38_3 : w37.cell? ⟨gb107, 3, none⟩ = some (.int .i64 x108003_1) := (blk_cell BK107.out 3).trans rfl; have hfz38_0 := blk_frozen BK107.out 0; have hfz38_1 := blk_frozen BK107.out 1; have hfz38_2 := blk_frozen BK107.out 2; have hfz38_3 := blk_frozen BK107.out 3))
                        refine bodyPost_ret (results_ctt rfl _ _ gb107 30 #[.int .i64 2, .string t113, .bool false, .int .i64 x7_1] (0, 0) _ rfl (by (with_reducible repeat (first | refine blk_drewN ?_ _ | refine blk_drew ?_ | refine blk_alloc ?_ _)); refine blk_put (cs := #[.int .i64 2, .string t113, .bool false, .int .i64 x108003_1]) ?_ 3 _ rfl; (with_reducible repeat (first | refine blk_drewN ?_ _ | refine blk_drew ?_ | refine blk_alloc ?_ _)); refine blk_put (cs := #[.int .i64 2, .string t113, .bool x108002_1, .int .i64 x108003_1]) ?_ 2 _ rfl; (with_reducible repeat (first | refine blk_drewN ?_ _ | refine blk_drew ?_ | refine blk_alloc ?_ _)); refine blk_put (cs := #[.int .i64 2, .string x108001_1, .bool x108002_1, .int .i64 x108003_1]) ?_ 1 _ rfl; (with_reducible repeat (first | refine blk_drewN ?_ _ | refine blk_drew ?_ | refine blk_alloc ?_ _)); refine blk_put (cs := #[.int .i64 x108000_1, .string x108001_1, .bool x108002_1, .int .i64 x108003_1]) ?_ 0 _ rfl; (with_reducible repeat (first | refine blk_drewN ?_ _ | refine blk_drew ?_ | refine blk_alloc ?_ _)); exact BK107.out) Tryd.underlying30 rfl (by kernel_rfl)) rfl ?_
                        exact ⟨by first | rfl | (simp [errW_none, errW_some] <;> rfl) | (simp only [← hji9, ← hji36]; first | rfl | (simp [errW_none, errW_some] <;> rfl)) | (simp [*, errW_none, errW_some] <;> rfl), by repeat (first | (with_reducible first | exact HB.out | apply below_alloc | apply pw_below_drewN | apply below_drew1 | refine below_set ?_ GE107.out) | exact HB.out)⟩
                      · replace c33 := Bool.eq_false_iff.mpr c33
                        subst c33
                        have H1 : ((spec_tagAt.f a0 x7_1 (⟨#[60, 33, 45, 45]⟩ : ByteArray)).bind fun t116 => (if t116 = true then ((spec_tagFind.f kj24 a0 (wrap64 (x7_1 + 4)) (⟨#[45, 45, 62]⟩ : ByteArray)).bind fun t117 => (some (3, (⟨#[]⟩ : ByteArray), false, x7_1, t117, true))) else ((spec_tagAt.f a0 x7_1 (⟨#[60, 33, 91, 67, 68, 65, 84, 65, 91]⟩ : ByteArray)).bind fun t118 => (if t118 = true then ((spec_tagFind.f kj24 a0 (wrap64 (x7_1 + 9)) (⟨#[93, 93, 62]⟩ : ByteArray)).bind fun t119 => (some (3, (⟨#[]⟩ : ByteArray), false, x7_1, t119, true))) else (if (bt a0 (ji9)) = 33 then ((spec_tagFind.f kj24 a0 (wrap64 (x7_1 + 2)) (⟨#[62]⟩ : ByteArray)).bind fun t120 => (some (3, (⟨#[]⟩ : ByteArray), false, x7_1, t120, true))) else (if (bt a0 (ji9)) = 63 then ((spec_tagFind.f kj24 a0 (wrap64 (x7_1 + 2)) (⟨#[62]⟩ : ByteArray)).bind fun t121 => (some (3, (⟨#[]⟩ : ByteArray), false, x7_1, t121, true))) else (if (bt a0 (ji9)) = 47 then ((spec_tagFind.f kj24 a0 (wrap64 (x7_1 + 2)) (⟨#[62]⟩ : ByteArray)).bind fun t122 => (some (3, (⟨#[]⟩ : ByteArray), false, x7_1, t122, true))) else (spec_tagNext.l0 kj24 a0 (wrap64 (x7_1 + 1)))))))))) = some (r1, r2, r3, r4, r5, r6) := by rw [if_neg (show ¬ (false = true) by decide)] at H; exact H
                        clear H
                        have H := H1
                        clear H1
                        replace H := Option.bind_eq_some_iff.mp H
                        obtain ⟨t116, A390, H⟩ := H
                        replace H : (if t116 = true then ((spec_tagFind.f kj24 a0 (wrap64 (x7_1 + 4)) (⟨#[45, 45, 62]⟩ : ByteArray)).bind fun t117 => (some (3, (⟨#[]⟩ : ByteArray), false, x7_1, t117, true))) else ((spec_tagAt.f a0 x7_1 (⟨#[60, 33, 91, 67, 68, 65, 84, 65, 91]⟩ : ByteArray)).bind fun t118 => (if t118 = true then ((spec_tagFind.f kj24 a0 (wrap64 (x7_1 + 9)) (⟨#[93, 93, 62]⟩ : ByteArray)).bind fun t119 => (some (3, (⟨#[]⟩ : ByteArray), false, x7_1, t119, true))) else (if (bt a0 (ji9)) = 33 then ((spec_tagFind.f kj24 a0 (wrap64 (x7_1 + 2)) (⟨#[62]⟩ : ByteArray)).bind fun t120 => (some (3, (⟨#[]⟩ : ByteArray), false, x7_1, t120, true))) else (if (bt a0 (ji9)) = 63 then ((spec_tagFind.f kj24 a0 (wrap64 (x7_1 + 2)) (⟨#[62]⟩ : ByteArray)).bind fun t121 => (some (3, (⟨#[]⟩ : ByteArray), false, x7_1, t121, true))) else (if (bt a0 (ji9)) = 47 then ((spec_tagFind.f kj24 a0 (wrap64 (x7_1 + 2)) (⟨#[62]⟩ : ByteArray)).bind fun t122 => (some (3, (⟨#[]⟩ : ByteArray), false, x7_1, t122, true))) else (spec_tagNext.l0 kj24 a0 (wrap64 (x7_1 + 1))))))))) = some (r1, r2, r3, r4, r5, r6) := H
                        have A39 := Aside0.mk A390
                        clear A390
                        by_cases c40 : t116 = true
                        · subst c40
                          have H1 : ((spec_tagFind.f kj24 a0 (wrap64 (x7_1 + 4)) (⟨#[45, 45, 62]⟩ : ByteArray)).bind fun t117 => (some (3, (⟨#[]⟩ : ByteArray), false, x7_1, t117, true))) = some (r1, r2, r3, r4, r5, r6) := by rw [if_pos rfl] at H; exact H
                          clear H
                          have H := H1
                          clear H1
                          replace H := Option.bind_eq_some_iff.mp H
                          obtain ⟨t117, A410, H⟩ := H
                          replace H : (some (3, (⟨#[]⟩ : ByteArray), false, x7_1, t117, true)) = some (r1, r2, r3, r4, r5, r6) := H
                          have A41 := Aside0.mk A410
                          clear A410
                          simp only [Option.some.injEq, Prod.mk.injEq] at H
                          obtain ⟨rfl, rfl, rfl, rfl, rfl, rfl⟩ := H
                          go_wp2_with (first | ((with_reducible refine gate_callee (f := 47) rfl ?_); refine goesL_ (some 98) rfl rfl Tryd.func47 (by kernel_rfl) rfl #[.string a0, .int .i64 x7_1, .string (⟨#[60, 33, 45, 45]⟩ : ByteArray)] rfl (by (try simp only [List.map_toArray, List.map_cons, List.map_nil]); first | done | rfl | (simp only [List.length_drop, List.length_take]; rfl)) ?_; (with_reducible refine (spec_tagAt.calls a0 x7_1 (⟨#[60, 33, 45, 45]⟩ : ByteArray) true _ A39.out).mono ?_); rintro e w' ⟨rfl, ⟨nd, rfl⟩⟩; refine ⟨_, rfl, ?_⟩; (try (rw [drewN_self wc]; generalize hq_ : World.drewN wc _ = wc; have n0_ : Aside0 (wc.heap[gb107]? = some (.cells #[.int .i64 x108000_1, .string x108001_1, .bool x108002_1, .int .i64 x108003_1] 30 (0, 0))) := ⟨by rw [← hq_]; exact (by (with_reducible repeat (first | refine blk_drewN ?_ _ | refine blk_drew ?_ | refine blk_alloc ?_ _)); exact BK107.out)⟩; have n1_ : Aside0 (Below w.heap.size w wc) := ⟨by rw [← hq_]; exact (by repeat (first | (with_reducible first | exact HB.out | apply below_alloc | apply pw_below_drewN | apply below_drew1 | refine below_set ?_ GE107.out) | exact HB.out))⟩; clear BK107 HB hq_; have BK107 := n0_; have HB := n1_; clear n0_ n1_))) | ((with_reducible refine gate_callee (f := 48) rfl ?_); refine goesL_ (some 104) rfl rfl Tryd.func48 (by kernel_rfl) rfl #[.string a0, .int .i64 (wrap64 (x7_1 + 4)), .string (⟨#[45, 45, 62]⟩ : ByteArray)] rfl (by (try simp only [List.map_toArray, List.map_cons, List.map_nil]); first | done | rfl | (simp only [List.length_drop, List.length_take]; rfl)) ?_; (with_reducible refine (spec_tagFind.calls kj24 a0 (wrap64 (x7_1 + 4)) (⟨#[45, 45, 62]⟩ : ByteArray) t117 _ A41.out).mono ?_); rintro e w' ⟨rfl, ⟨nd, rfl⟩⟩; refine ⟨_, rfl, ?_⟩; (try (rw [drewN_self wc]; generalize hq_ : World.drewN wc _ = wc; have n0_ : Aside0 (wc.heap[gb107]? = some (.cells #[.int .i64 x108000_1, .string x108001_1, .bool x108002_1, .int .i64 x108003_1] 30 (0, 0))) := ⟨by rw [← hq_]; exact (by (with_reducible repeat (first | refine blk_drewN ?_ _ | refine blk_drew ?_ | refine blk_alloc ?_ _)); exact BK107.out)⟩; have n1_ : Aside0 (Below w.heap.size w wc) := ⟨by rw [← hq_]; exact (by repeat (first | (with_reducible first | exact HB.out | apply below_alloc | apply pw_below_drewN | apply below_drew1 | refine below_set ?_ GE107.out) | exact HB.out))⟩; clear BK107 HB hq_; have BK107 := n0_; have HB := n1_; clear n0_ n1_)); have hcz42_0 : wc.cell? ⟨gb107, 0, none⟩ = some (.int .i64 x108000_1) := (blk_cell BK107.out 0).trans rfl; have hcz42_1 : wc.cell? ⟨gb107, 1, none⟩ = some (.string x108001_1) := (blk_cell BK107.out 1).trans rfl; have hcz42_2 : wc.cell? ⟨gb107, 2, none⟩ = some (.bool x108002_1) := (blk_cell BK107.out 2).trans rfl; have hcz42_3 : wc.cell? ⟨gb107, 3, none⟩ = some (.int .i64 x108003_1) := (blk_cell BK107.out 3).trans rfl; have hfz42_0 := blk_frozen BK107.out 0; have hfz42_1 := blk_frozen BK107.out 1; have hfz42_2 := blk_frozen BK107.out 2; have hfz42_3 := blk_frozen BK107.out 3))
                          refine bodyPost_ret (results_ctt rfl _ _ gb107 30 #[.int .i64 3, .string (⟨#[]⟩ : ByteArray), .bool false, .int .i64 x7_1] (0, 0) _ rfl (by (with_reducible repeat (first | refine blk_drewN ?_ _ | refine blk_drew ?_ | refine blk_alloc ?_ _)); refine blk_put (cs := #[.int .i64 3, .string (⟨#[]⟩ : ByteArray), .bool false, .int .i64 x108003_1]) ?_ 3 _ rfl; (with_reducible repeat (first | refine blk_drewN ?_ _ | refine blk_drew ?_ | refine blk_alloc ?_ _)); refine blk_put (cs := #[.int .i64 3, .string (⟨#[]⟩ : ByteArray), .bool x108002_1, .int .i64 x108003_1]) ?_ 2 _ rfl; (with_reducible repeat (first | refine blk_drewN ?_ _ | refine blk_drew ?_ | refine blk_alloc ?_ _)); refine blk_put (cs := #[.int .i64 3, .string x108001_1, .bool x108002_1, .int .i64 x108003_1]) ?_ 1 _ rfl; (with_reducible repeat (first | refine blk_drewN ?_ _ | refine blk_drew ?_ | refine blk_alloc ?_ _)); refine blk_put (cs := #[.int .i64 x108000_1, .string x108001_1, .bool x108002_1, .int .i64 x108003_1]) ?_ 0 _ rfl; (with_reducible repeat (first | refine blk_drewN ?_ _ | refine blk_drew ?_ | refine blk_alloc ?_ _)); exact BK107.out) Tryd.underlying30 rfl (by kernel_rfl)) rfl ?_
                          exact ⟨by first | rfl | (simp [errW_none, errW_some] <;> rfl) | (simp only [← hji9]; first | rfl | (simp [errW_none, errW_some] <;> rfl)) | (simp [*, errW_none, errW_some] <;> rfl), by repeat (first | (with_reducible first | exact HB.out | apply below_alloc | apply pw_below_drewN | apply below_drew1 | refine below_set ?_ GE107.out) | exact HB.out)⟩
                        · replace c40 := Bool.eq_false_iff.mpr c40
                          subst c40
                          have H1 : ((spec_tagAt.f a0 x7_1 (⟨#[60, 33, 91, 67, 68, 65, 84, 65, 91]⟩ : ByteArray)).bind fun t118 => (if t118 = true then ((spec_tagFind.f kj24 a0 (wrap64 (x7_1 + 9)) (⟨#[93, 93, 62]⟩ : ByteArray)).bind fun t119 => (some (3, (⟨#[]⟩ : ByteArray), false, x7_1, t119, true))) else (if (bt a0 (ji9)) = 33 then ((spec_tagFind.f kj24 a0 (wrap64 (x7_1 + 2)) (⟨#[62]⟩ : ByteArray)).bind fun t120 => (some (3, (⟨#[]⟩ : ByteArray), false, x7_1, t120, true))) else (if (bt a0 (ji9)) = 63 then ((spec_tagFind.f kj24 a0 (wrap64 (x7_1 + 2)) (⟨#[62]⟩ : ByteArray)).bind fun t121 => (some (3, (⟨#[]⟩ : ByteArray), false, x7_1, t121, true))) else (if (bt a0 (ji9)) = 47 then ((spec_tagFind.f kj24 a0 (wrap64 (x7_1 + 2)) (⟨#[62]⟩ : ByteArray)).bind fun t122 => (some (3, (⟨#[]⟩ : ByteArray), false, x7_1, t122, true))) else (spec_tagNext.l0 kj24 a0 (wrap64 (x7_1 + 1)))))))) = some (r1, r2, r3, r4, r5, r6) := by rw [if_neg (show ¬ (false = true) by decide)] at H; exact H
                          clear H
                          have H := H1
                          clear H1
                          replace H := Option.bind_eq_some_iff.mp H
                          obtain ⟨t118, A430, H⟩ := H
                          replace H : (if t118 = true then ((spec_tagFind.f kj24 a0 (wrap64 (x7_1 + 9)) (⟨#[93, 93, 62]⟩ : ByteArray)).bind fun t119 => (some (3, (⟨#[]⟩ : ByteArray), false, x7_1, t119, true))) else (if (bt a0 (ji9)) = 33 then ((spec_tagFind.f kj24 a0 (wrap64 (x7_1 + 2)) (⟨#[62]⟩ : ByteArray)).bind fun t120 => (some (3, (⟨#[]⟩ : ByteArray), false, x7_1, t120, true))) else (if (bt a0 (ji9)) = 63 then ((spec_tagFind.f kj24 a0 (wrap64 (x7_1 + 2)) (⟨#[62]⟩ : ByteArray)).bind fun t121 => (some (3, (⟨#[]⟩ : ByteArray), false, x7_1, t121, true))) else (if (bt a0 (ji9)) = 47 then ((spec_tagFind.f kj24 a0 (wrap64 (x7_1 + 2)) (⟨#[62]⟩ : ByteArray)).bind fun t122 => (some (3, (⟨#[]⟩ : ByteArray), false, x7_1, t122, true))) else (spec_tagNext.l0 kj24 a0 (wrap64 (x7_1 + 1))))))) = some (r1, r2, r3, r4, r5, r6) := H
                          have A43 := Aside0.mk A430
                          clear A430
                          by_cases c44 : t118 = true
                          · subst c44
                            have H1 : ((spec_tagFind.f kj24 a0 (wrap64 (x7_1 + 9)) (⟨#[93, 93, 62]⟩ : ByteArray)).bind fun t119 => (some (3, (⟨#[]⟩ : ByteArray), false, x7_1, t119, true))) = some (r1, r2, r3, r4, r5, r6) := by rw [if_pos rfl] at H; exact H
                            clear H
                            have H := H1
                            clear H1
                            replace H := Option.bind_eq_some_iff.mp H
                            obtain ⟨t119, A450, H⟩ := H
                            replace H : (some (3, (⟨#[]⟩ : ByteArray), false, x7_1, t119, true)) = some (r1, r2, r3, r4, r5, r6) := H
                            have A45 := Aside0.mk A450
                            clear A450
                            simp only [Option.some.injEq, Prod.mk.injEq] at H
                            obtain ⟨rfl, rfl, rfl, rfl, rfl, rfl⟩ := H
                            go_wp2_with (first | ((with_reducible refine gate_callee (f := 47) rfl ?_); refine goesL_ (some 98) rfl rfl Tryd.func47 (by kernel_rfl) rfl #[.string a0, .int .i64 x7_1, .string (⟨#[60, 33, 45, 45]⟩ : ByteArray)] rfl (by (try simp only [List.map_toArray, List.map_cons, List.map_nil]); first | done | rfl | (simp only [List.length_drop, List.length_take]; rfl)) ?_; (with_reducible refine (spec_tagAt.calls a0 x7_1 (⟨#[60, 33, 45, 45]⟩ : ByteArray) false _ A39.out).mono ?_); rintro e w' ⟨rfl, ⟨nd, rfl⟩⟩; refine ⟨_, rfl, ?_⟩; (try (rw [drewN_self wc]; generalize hq_ : World.drewN wc _ = wc; have n0_ : Aside0 (wc.heap[gb107]? = some (.cells #[.int .i64 x108000_1, .string x108001_1, .bool x108002_1, .int .i64 x108003_1] 30 (0, 0))) := ⟨by rw [← hq_]; exact (by (with_reducible repeat (first | refine blk_drewN ?_ _ | refine blk_drew ?_ | refine blk_alloc ?_ _)); exact BK107.out)⟩; have n1_ : Aside0 (Below w.heap.size w wc) := ⟨by rw [← hq_]; exact (by repeat (first | (with_reducible first | exact HB.out | apply below_alloc | apply pw_below_drewN | apply below_drew1 | refine below_set ?_ GE107.out) | exact HB.out))⟩; clear BK107 HB hq_; have BK107 := n0_; have HB := n1_; clear n0_ n1_))) | ((with_reducible refine gate_callee (f := 47) rfl ?_); refine goesL_ (some 108) rfl rfl Tryd.func47 (by kernel_rfl) rfl #[.string a0, .int .i64 x7_1, .string (⟨#[60, 33, 91, 67, 68, 65, 84, 65, 91]⟩ : ByteArray)] rfl (by (try simp only [List.map_toArray, List.map_cons, List.map_nil]); first | done | rfl | (simp only [List.length_drop, List.length_take]; rfl)) ?_; (with_reducible refine (spec_tagAt.calls a0 x7_1 (⟨#[60, 33, 91, 67, 68, 65, 84, 65, 91]⟩ : ByteArray) true _ A43.out).mono ?_); rintro e w' ⟨rfl, ⟨nd, rfl⟩⟩; refine ⟨_, rfl, ?_⟩; (try (rw [drewN_self wc]; generalize hq_ : World.drewN wc _ = wc; have n0_ : Aside0 (wc.heap[gb107]? = some (.cells #[.int .i64 x108000_1, .string x108001_1, .bool x108002_1, .int .i64 x108003_1] 30 (0, 0))) := ⟨by rw [← hq_]; exact (by (with_reducible repeat (first | refine blk_drewN ?_ _ | refine blk_drew ?_ | refine blk_alloc ?_ _)); exact BK107.out)⟩; have n1_ : Aside0 (Below w.heap.size w wc) := ⟨by rw [← hq_]; exact (by repeat (first | (with_reducible first | exact HB.out | apply below_alloc | apply pw_below_drewN | apply below_drew1 | refine below_set ?_ GE107.out) | exact HB.out))⟩; clear BK107 HB hq_; have BK107 := n0_; have HB := n1_; clear n0_ n1_))) | ((with_reducible refine gate_callee (f := 48) rfl ?_); refine goesL_ (some 114) rfl rfl Tryd.func48 (by kernel_rfl) rfl #[.string a0, .int .i64 (wrap64 (x7_1 + 9)), .string (⟨#[93, 93, 62]⟩ : ByteArray)] rfl (by (try simp only [List.map_toArray, List.map_cons, List.map_nil]); first | done | rfl | (simp only [List.length_drop, List.length_take]; rfl)) ?_; (with_reducible refine (spec_tagFind.calls kj24 a0 (wrap64 (x7_1 + 9)) (⟨#[93, 93, 62]⟩ : ByteArray) t119 _ A45.out).mono ?_); rintro e w' ⟨rfl, ⟨nd, rfl⟩⟩; refine ⟨_, rfl, ?_⟩; (try (rw [drewN_self wc]; generalize hq_ : World.drewN wc _ = wc; have n0_ : Aside0 (wc.heap[gb107]? = some (.cells #[.int .i64 x108000_1, .string x108001_1, .bool x108002_1, .int .i64 x108003_1] 30 (0, 0))) := ⟨by rw [← hq_]; exact (by (with_reducible repeat (first | refine blk_drewN ?_ _ | refine blk_drew ?_ | refine blk_alloc ?_ _)); exact BK107.out)⟩; have n1_ : Aside0 (Below w.heap.size w wc) := ⟨by rw [← hq_]; exact (by repeat (first | (with_reducible first | exact HB.out | apply below_alloc | apply pw_below_drewN | apply below_drew1 | refine below_set ?_ GE107.out) | exact HB.out))⟩; clear BK107 HB hq_; have BK107 := n0_; have HB := n1_; clear n0_ n1_)); have hcz46_0 : wc.cell? ⟨gb107, 0, none⟩ = some (.int .i64 x108000_1) := (blk_cell BK107.out 0).trans rfl; have hcz46_1 : wc.cell? ⟨gb107, 1, none⟩ = some (.string x108001_1) := (blk_cell BK107.out 1).trans rfl; have hcz46_2 : wc.cell? ⟨gb107, 2, none⟩ = some (.bool x108002_1) := (blk_cell BK107.out 2).trans rfl; have hcz46_3 : wc.cell? ⟨gb107, 3, none⟩ = some (.int .i64 x108003_1) := (blk_cell BK107.out 3).trans rfl; have hfz46_0 := blk_frozen BK107.out 0; have hfz46_1 := blk_frozen BK107.out 1; have hfz46_2 := blk_frozen BK107.out 2; have hfz46_3 := blk_frozen BK107.out 3))
                            refine bodyPost_ret (results_ctt rfl _ _ gb107 30 #[.int .i64 3, .string (⟨#[]⟩ : ByteArray), .bool false, .int .i64 x7_1] (0, 0) _ rfl (by (with_reducible repeat (first | refine blk_drewN ?_ _ | refine blk_drew ?_ | refine blk_alloc ?_ _)); refine blk_put (cs := #[.int .i64 3, .string (⟨#[]⟩ : ByteArray), .bool false, .int .i64 x108003_1]) ?_ 3 _ rfl; (with_reducible repeat (first | refine blk_drewN ?_ _ | refine blk_drew ?_ | refine blk_alloc ?_ _)); refine blk_put (cs := #[.int .i64 3, .string (⟨#[]⟩ : ByteArray), .bool x108002_1, .int .i64 x108003_1]) ?_ 2 _ rfl; (with_reducible repeat (first | refine blk_drewN ?_ _ | refine blk_drew ?_ | refine blk_alloc ?_ _)); refine blk_put (cs := #[.int .i64 3, .string x108001_1, .bool x108002_1, .int .i64 x108003_1]) ?_ 1 _ rfl; (with_reducible repeat (first | refine blk_drewN ?_ _ | refine blk_drew ?_ | refine blk_alloc ?_ _)); refine blk_put (cs := #[.int .i64 x108000_1, .string x108001_1, .bool x108002_1, .int .i64 x108003_1]) ?_ 0 _ rfl; (with_reducible repeat (first | refine blk_drewN ?_ _ | refine blk_drew ?_ | refine blk_alloc ?_ _)); exact BK107.out) Tryd.underlying30 rfl (by kernel_rfl)) rfl ?_
                            exact ⟨by first | rfl | (simp [errW_none, errW_some] <;> rfl) | (simp only [← hji9]; first | rfl | (simp [errW_none, errW_some] <;> rfl)) | (simp [*, errW_none, errW_some] <;> rfl), by repeat (first | (with_reducible first | exact HB.out | apply below_alloc | apply pw_below_drewN | apply below_drew1 | refine below_set ?_ GE107.out) | exact HB.out)⟩
                          · replace c44 := Bool.eq_false_iff.mpr c44
                            subst c44
                            have H1 : (if (bt a0 (ji9)) = 33 then ((spec_tagFind.f kj24 a0 (wrap64 (x7_1 + 2)) (⟨#[62]⟩ : ByteArray)).bind fun t120 => (some (3, (⟨#[]⟩ : ByteArray), false, x7_1, t120, true))) else (if (bt a0 (ji9)) = 63 then ((spec_tagFind.f kj24 a0 (wrap64 (x7_1 + 2)) (⟨#[62]⟩ : ByteArray)).bind fun t121 => (some (3, (⟨#[]⟩ : ByteArray), false, x7_1, t121, true))) else (if (bt a0 (ji9)) = 47 then ((spec_tagFind.f kj24 a0 (wrap64 (x7_1 + 2)) (⟨#[62]⟩ : ByteArray)).bind fun t122 => (some (3, (⟨#[]⟩ : ByteArray), false, x7_1, t122, true))) else (spec_tagNext.l0 kj24 a0 (wrap64 (x7_1 + 1)))))) = some (r1, r2, r3, r4, r5, r6) := by rw [if_neg (show ¬ (false = true) by decide)] at H; exact H
                            clear H
                            have H := H1
                            clear H1
                            by_cases c47 : (bt a0 (ji9)) = 33
                            · rw [if_pos c47] at H
                              have c47b0 : ((bt a0 (ji9)) == 33) = true := beq_iff_eq.mpr c47
                              have c47b1 : ((bt a0 (ji9)) != 33) = false := bne_eq_false_iff_eq.mpr c47
                              clear c47
                              replace H := Option.bind_eq_some_iff.mp H
                              obtain ⟨t120, A480, H⟩ := H
                              replace H : (some (3, (⟨#[]⟩ : ByteArray), false, x7_1, t120, true)) = some (r1, r2, r3, r4, r5, r6) := H
                              have A48 := Aside0.mk A480
                              clear A480
                              simp only [Option.some.injEq, Prod.mk.injEq] at H
                              obtain ⟨rfl, rfl, rfl, rfl, rfl, rfl⟩ := H
                              go_wp2_with (first | ((with_reducible refine gate_callee (f := 47) rfl ?_); refine goesL_ (some 98) rfl rfl Tryd.func47 (by kernel_rfl) rfl #[.string a0, .int .i64 x7_1, .string (⟨#[60, 33, 45, 45]⟩ : ByteArray)] rfl (by (try simp only [List.map_toArray, List.map_cons, List.map_nil]); first | done | rfl | (simp only [List.length_drop, List.length_take]; rfl)) ?_; (with_reducible refine (spec_tagAt.calls a0 x7_1 (⟨#[60, 33, 45, 45]⟩ : ByteArray) false _ A39.out).mono ?_); rintro e w' ⟨rfl, ⟨nd, rfl⟩⟩; refine ⟨_, rfl, ?_⟩; (try (rw [drewN_self wc]; generalize hq_ : World.drewN wc _ = wc; have n0_ : Aside0 (wc.heap[gb107]? = some (.cells #[.int .i64 x108000_1, .string x108001_1, .bool x108002_1, .int .i64 x108003_1] 30 (0, 0))) := ⟨by rw [← hq_]; exact (by (with_reducible repeat (first | refine blk_drewN ?_ _ | refine blk_drew ?_ | refine blk_alloc ?_ _)); exact BK107.out)⟩; have n1_ : Aside0 (Below w.heap.size w wc) := ⟨by rw [← hq_]; exact (by repeat (first | (with_reducible first | exact HB.out | apply below_alloc | apply pw_below_drewN | apply below_drew1 | refine below_set ?_ GE107.out) | exact HB.out))⟩; clear BK107 HB hq_; have BK107 := n0_; have HB := n1_; clear n0_ n1_))) | ((with_reducible refine gate_callee (f := 47) rfl ?_); refine goesL_ (some 108) rfl rfl Tryd.func47 (by kernel_rfl) rfl #[.string a0, .int .i64 x7_1, .string (⟨#[60, 33, 91, 67, 68, 65, 84, 65, 91]⟩ : ByteArray)] rfl (by (try simp only [List.map_toArray, List.map_cons, List.map_nil]); first | done | rfl | (simp only [List.length_drop, List.length_take]; rfl)) ?_; (with_reducible refine (spec_tagAt.calls a0 x7_1 (⟨#[60, 33, 91, 67, 68, 65, 84, 65, 91]⟩ : ByteArray) false _ A43.out).mono ?_); rintro e w' ⟨rfl, ⟨nd, rfl⟩⟩; refine ⟨_, rfl, ?_⟩; (try (rw [drewN_self wc]; generalize hq_ : World.drewN wc _ = wc; have n0_ : Aside0 (wc.heap[gb107]? = some (.cells #[.int .i64 x108000_1, .string x108001_1, .bool x108002_1, .int .i64 x108003_1] 30 (0, 0))) := ⟨by rw [← hq_]; exact (by (with_reducible repeat (first | refine blk_drewN ?_ _ | refine blk_drew ?_ | refine blk_alloc ?_ _)); exact BK107.out)⟩; have n1_ : Aside0 (Below w.heap.size w wc) := ⟨by rw [← hq_]; exact (by repeat (first | (with_reducible first | exact HB.out | apply below_alloc | apply pw_below_drewN | apply below_drew1 | refine below_set ?_ GE107.out) | exact HB.out))⟩; clear BK107 HB hq_; have BK107 := n0_; have HB := n1_; clear n0_ n1_))) | ((with_reducible refine gate_callee (f := 48) rfl ?_); refine goesL_ (some 131) rfl rfl Tryd.func48 (by kernel_rfl) rfl #[.string a0, .int .i64 (wrap64 (x7_1 + 2)), .string (⟨#[62]⟩ : ByteArray)] rfl (by (try simp only [List.map_toArray, List.map_cons, List.map_nil]); first | done | rfl | (simp only [List.length_drop, List.length_take]; rfl)) ?_; (with_reducible refine (spec_tagFind.calls kj24 a0 (wrap64 (x7_1 + 2)) (⟨#[62]⟩ : ByteArray) t120 _ A48.out).mono ?_); rintro e w' ⟨rfl, ⟨nd, rfl⟩⟩; refine ⟨_, rfl, ?_⟩; (try (rw [drewN_self wc]; generalize hq_ : World.drewN wc _ = wc; have n0_ : Aside0 (wc.heap[gb107]? = some (.cells #[.int .i64 x108000_1, .string x108001_1, .bool x108002_1, .int .i64 x108003_1] 30 (0, 0))) := ⟨by rw [← hq_]; exact (by (with_reducible repeat (first | refine blk_drewN ?_ _ | refine blk_drew ?_ | refine blk_alloc ?_ _)); exact BK107.out)⟩; have n1_ : Aside0 (Below w.heap.size w wc) := ⟨by rw [← hq_]; exact (by repeat (first | (with_reducible first | exact HB.out | apply below_alloc | apply pw_below_drewN | apply below_drew1 | refine below_set ?_ GE107.out) | exact HB.out))⟩; clear BK107 HB hq_; have BK107 := n0_; have HB := n1_; clear n0_ n1_)); have hcz49_0 : wc.cell? ⟨gb107, 0, none⟩ = some (.int .i64 x108000_1) := (blk_cell BK107.out 0).trans rfl; have hcz49_1 : wc.cell? ⟨gb107, 1, none⟩ = some (.string x108001_1) := (blk_cell BK107.out 1).trans rfl; have hcz49_2 : wc.cell? ⟨gb107, 2, none⟩ = some (.bool x108002_1) := (blk_cell BK107.out 2).trans rfl; have hcz49_3 : wc.cell? ⟨gb107, 3, none⟩ = some (.int .i64 x108003_1) := (blk_cell BK107.out 3).trans rfl; have hfz49_0 := blk_frozen BK107.out 0; have hfz49_1 := blk_frozen BK107.out 1; have hfz49_2 := blk_frozen BK107.out 2; have hfz49_3 := blk_frozen BK107.out 3))
                              refine bodyPost_ret (results_ctt rfl _ _ gb107 30 #[.int .i64 3, .string (⟨#[]⟩ : ByteArray), .bool false, .int .i64 x7_1] (0, 0) _ rfl (by (with_reducible repeat (first | refine blk_drewN ?_ _ | refine blk_drew ?_ | refine blk_alloc ?_ _)); refine blk_put (cs := #[.int .i64 3, .string (⟨#[]⟩ : ByteArray), .bool false, .int .i64 x108003_1]) ?_ 3 _ rfl; (with_reducible repeat (first | refine blk_drewN ?_ _ | refine blk_drew ?_ | refine blk_alloc ?_ _)); refine blk_put (cs := #[.int .i64 3, .string (⟨#[]⟩ : ByteArray), .bool x108002_1, .int .i64 x108003_1]) ?_ 2 _ rfl; (with_reducible repeat (first | refine blk_drewN ?_ _ | refine blk_drew ?_ | refine blk_alloc ?_ _)); refine blk_put (cs := #[.int .i64 3, .string x108001_1, .bool x108002_1, .int .i64 x108003_1]) ?_ 1 _ rfl; (with_reducible repeat (first | refine blk_drewN ?_ _ | refine blk_drew ?_ | refine blk_alloc ?_ _)); refine blk_put (cs := #[.int .i64 x108000_1, .string x108001_1, .bool x108002_1, .int .i64 x108003_1]) ?_ 0 _ rfl; (with_reducible repeat (first | refine blk_drewN ?_ _ | refine blk_drew ?_ | refine blk_alloc ?_ _)); exact BK107.out) Tryd.underlying30 rfl (by kernel_rfl)) rfl ?_
                              exact ⟨by first | rfl | (simp [errW_none, errW_some] <;> rfl) | (simp only [← hji9]; first | rfl | (simp [errW_none, errW_some] <;> rfl)) | (simp [*, errW_none, errW_some] <;> rfl), by repeat (first | (with_reducible first | exact HB.out | apply below_alloc | apply pw_below_drewN | apply below_drew1 | refine below_set ?_ GE107.out) | exact HB.out)⟩
                            · rw [if_neg c47] at H
                              have c47b0 : ((bt a0 (ji9)) == 33) = false := beq_eq_false_iff_ne.mpr c47
                              have c47b1 : ((bt a0 (ji9)) != 33) = true := bne_iff_ne.mpr c47
                              by_cases c50 : (bt a0 (ji9)) = 63
                              · rw [if_pos c50] at H
                                have c50b0 : ((bt a0 (ji9)) == 63) = true := beq_iff_eq.mpr c50
                                have c50b1 : ((bt a0 (ji9)) != 63) = false := bne_eq_false_iff_eq.mpr c50
                                clear c50
                                replace H := Option.bind_eq_some_iff.mp H
                                obtain ⟨t121, A510, H⟩ := H
                                replace H : (some (3, (⟨#[]⟩ : ByteArray), false, x7_1, t121, true)) = some (r1, r2, r3, r4, r5, r6) := H
                                have A51 := Aside0.mk A510
                                clear A510
                                simp only [Option.some.injEq, Prod.mk.injEq] at H
                                obtain ⟨rfl, rfl, rfl, rfl, rfl, rfl⟩ := H
                                go_wp2_with (first | ((with_reducible refine gate_callee (f := 47) rfl ?_); refine goesL_ (some 98) rfl rfl Tryd.func47 (by kernel_rfl) rfl #[.string a0, .int .i64 x7_1, .string (⟨#[60, 33, 45, 45]⟩ : ByteArray)] rfl (by (try simp only [List.map_toArray, List.map_cons, List.map_nil]); first | done | rfl | (simp only [List.length_drop, List.length_take]; rfl)) ?_; (with_reducible refine (spec_tagAt.calls a0 x7_1 (⟨#[60, 33, 45, 45]⟩ : ByteArray) false _ A39.out).mono ?_); rintro e w' ⟨rfl, ⟨nd, rfl⟩⟩; refine ⟨_, rfl, ?_⟩; (try (rw [drewN_self wc]; generalize hq_ : World.drewN wc _ = wc; have n0_ : Aside0 (wc.heap[gb107]? = some (.cells #[.int .i64 x108000_1, .string x108001_1, .bool x108002_1, .int .i64 x108003_1] 30 (0, 0))) := ⟨by rw [← hq_]; exact (by (with_reducible repeat (first | refine blk_drewN ?_ _ | refine blk_drew ?_ | refine blk_alloc ?_ _)); exact BK107.out)⟩; have n1_ : Aside0 (Below w.heap.size w wc) := ⟨by rw [← hq_]; exact (by repeat (first | (with_reducible first | exact HB.out | apply below_alloc | apply pw_below_drewN | apply below_drew1 | refine below_set ?_ GE107.out) | exact HB.out))⟩; clear BK107 HB hq_; have BK107 := n0_; have HB := n1_; clear n0_ n1_))) | ((with_reducible refine gate_callee (f := 47) rfl ?_); refine goesL_ (some 108) rfl rfl Tryd.func47 (by kernel_rfl) rfl #[.string a0, .int .i64 x7_1, .string (⟨#[60, 33, 91, 67, 68, 65, 84, 65, 91]⟩ : ByteArray)] rfl (by (try simp only [List.map_toArray, List.map_cons, List.map_nil]); first | done | rfl | (simp only [List.length_drop, List.length_take]; rfl)) ?_; (with_reducible refine (spec_tagAt.calls a0 x7_1 (⟨#[60, 33, 91, 67, 68, 65, 84, 65, 91]⟩ : ByteArray) false _ A43.out).mono ?_); rintro e w' ⟨rfl, ⟨nd, rfl⟩⟩; refine ⟨_, rfl, ?_⟩; (try (rw [drewN_self wc]; generalize hq_ : World.drewN wc _ = wc; have n0_ : Aside0 (wc.heap[gb107]? = some (.cells #[.int .i64 x108000_1, .string x108001_1, .bool x108002_1, .int .i64 x108003_1] 30 (0, 0))) := ⟨by rw [← hq_]; exact (by (with_reducible repeat (first | refine blk_drewN ?_ _ | refine blk_drew ?_ | refine blk_alloc ?_ _)); exact BK107.out)⟩; have n1_ : Aside0 (Below w.heap.size w wc) := ⟨by rw [← hq_]; exact (by repeat (first | (with_reducible first | exact HB.out | apply below_alloc | apply pw_below_drewN | apply below_drew1 | refine below_set ?_ GE107.out) | exact HB.out))⟩; clear BK107 HB hq_; have BK107 := n0_; have HB := n1_; clear n0_ n1_))) | ((with_reducible refine gate_callee (f := 48) rfl ?_); refine goesL_ (some 131) rfl rfl Tryd.func48 (by kernel_rfl) rfl #[.string a0, .int .i64 (wrap64 (x7_1 + 2)), .string (⟨#[62]⟩ : ByteArray)] rfl (by (try simp only [List.map_toArray, List.map_cons, List.map_nil]); first | done | rfl | (simp only [List.length_drop, List.length_take]; rfl)) ?_; (with_reducible refine (spec_tagFind.calls kj24 a0 (wrap64 (x7_1 + 2)) (⟨#[62]⟩ : ByteArray) t121 _ A51.out).mono ?_); rintro e w' ⟨rfl, ⟨nd, rfl⟩⟩; refine ⟨_, rfl, ?_⟩; (try (rw [drewN_self wc]; generalize hq_ : World.drewN wc _ = wc; have n0_ : Aside0 (wc.heap[gb107]? = some (.cells #[.int .i64 x108000_1, .string x108001_1, .bool x108002_1, .int .i64 x108003_1] 30 (0, 0))) := ⟨by rw [← hq_]; exact (by (with_reducible repeat (first | refine blk_drewN ?_ _ | refine blk_drew ?_ | refine blk_alloc ?_ _)); exact BK107.out)⟩; have n1_ : Aside0 (Below w.heap.size w wc) := ⟨by rw [← hq_]; exact (by repeat (first | (with_reducible first | exact HB.out | apply below_alloc | apply pw_below_drewN | apply below_drew1 | refine below_set ?_ GE107.out) | exact HB.out))⟩; clear BK107 HB hq_; have BK107 := n0_; have HB := n1_; clear n0_ n1_)); have hcz52_0 : wc.cell? ⟨gb107, 0, none⟩ = some (.int .i64 x108000_1) := (blk_cell BK107.out 0).trans rfl; have hcz52_1 : wc.cell? ⟨gb107, 1, none⟩ = some (.string x108001_1) := (blk_cell BK107.out 1).trans rfl; have hcz52_2 : wc.cell? ⟨gb107, 2, none⟩ = some (.bool x108002_1) := (blk_cell BK107.out 2).trans rfl; have hcz52_3 : wc.cell? ⟨gb107, 3, none⟩ = some (.int .i64 x108003_1) := (blk_cell BK107.out 3).trans rfl; have hfz52_0 := blk_frozen BK107.out 0; have hfz52_1 := blk_frozen BK107.out 1; have hfz52_2 := blk_frozen BK107.out 2; have hfz52_3 := blk_frozen BK107.out 3))
                                refine bodyPost_ret (results_ctt rfl _ _ gb107 30 #[.int .i64 3, .string (⟨#[]⟩ : ByteArray), .bool false, .int .i64 x7_1] (0, 0) _ rfl (by (with_reducible repeat (first | refine blk_drewN ?_ _ | refine blk_drew ?_ | refine blk_alloc ?_ _)); refine blk_put (cs := #[.int .i64 3, .string (⟨#[]⟩ : ByteArray), .bool false, .int .i64 x108003_1]) ?_ 3 _ rfl; (with_reducible repeat (first | refine blk_drewN ?_ _ | refine blk_drew ?_ | refine blk_alloc ?_ _)); refine blk_put (cs := #[.int .i64 3, .string (⟨#[]⟩ : ByteArray), .bool x108002_1, .int .i64 x108003_1]) ?_ 2 _ rfl; (with_reducible repeat (first | refine blk_drewN ?_ _ | refine blk_drew ?_ | refine blk_alloc ?_ _)); refine blk_put (cs := #[.int .i64 3, .string x108001_1, .bool x108002_1, .int .i64 x108003_1]) ?_ 1 _ rfl; (with_reducible repeat (first | refine blk_drewN ?_ _ | refine blk_drew ?_ | refine blk_alloc ?_ _)); refine blk_put (cs := #[.int .i64 x108000_1, .string x108001_1, .bool x108002_1, .int .i64 x108003_1]) ?_ 0 _ rfl; (with_reducible repeat (first | refine blk_drewN ?_ _ | refine blk_drew ?_ | refine blk_alloc ?_ _)); exact BK107.out) Tryd.underlying30 rfl (by kernel_rfl)) rfl ?_
                                exact ⟨by first | rfl | (simp [errW_none, errW_some] <;> rfl) | (simp only [← hji9]; first | rfl | (simp [errW_none, errW_some] <;> rfl)) | (simp [*, errW_none, errW_some] <;> rfl), by repeat (first | (with_reducible first | exact HB.out | apply below_alloc | apply pw_below_drewN | apply below_drew1 | refine below_set ?_ GE107.out) | exact HB.out)⟩
                              · rw [if_neg c50] at H
                                have c50b0 : ((bt a0 (ji9)) == 63) = false := beq_eq_false_iff_ne.mpr c50
                                have c50b1 : ((bt a0 (ji9)) != 63) = true := bne_iff_ne.mpr c50
                                by_cases c53 : (bt a0 (ji9)) = 47
                                · rw [if_pos c53] at H
                                  have c53b0 : ((bt a0 (ji9)) == 47) = true := beq_iff_eq.mpr c53
                                  have c53b1 : ((bt a0 (ji9)) != 47) = false := bne_eq_false_iff_eq.mpr c53
                                  clear c53
                                  replace H := Option.bind_eq_some_iff.mp H
                                  obtain ⟨t122, A540, H⟩ := H
                                  replace H : (some (3, (⟨#[]⟩ : ByteArray), false, x7_1, t122, true)) = some (r1, r2, r3, r4, r5, r6) := H
                                  have A54 := Aside0.mk A540
                                  clear A540
                                  simp only [Option.some.injEq, Prod.mk.injEq] at H
                                  obtain ⟨rfl, rfl, rfl, rfl, rfl, rfl⟩ := H
                                  go_wp2_with (first | ((with_reducible refine gate_callee (f := 47) rfl ?_); refine goesL_ (some 98) rfl rfl Tryd.func47 (by kernel_rfl) rfl #[.string a0, .int .i64 x7_1, .string (⟨#[60, 33, 45, 45]⟩ : ByteArray)] rfl (by (try simp only [List.map_toArray, List.map_cons, List.map_nil]); first | done | rfl | (simp only [List.length_drop, List.length_take]; rfl)) ?_; (with_reducible refine (spec_tagAt.calls a0 x7_1 (⟨#[60, 33, 45, 45]⟩ : ByteArray) false _ A39.out).mono ?_); rintro e w' ⟨rfl, ⟨nd, rfl⟩⟩; refine ⟨_, rfl, ?_⟩; (try (rw [drewN_self wc]; generalize hq_ : World.drewN wc _ = wc; have n0_ : Aside0 (wc.heap[gb107]? = some (.cells #[.int .i64 x108000_1, .string x108001_1, .bool x108002_1, .int .i64 x108003_1] 30 (0, 0))) := ⟨by rw [← hq_]; exact (by (with_reducible repeat (first | refine blk_drewN ?_ _ | refine blk_drew ?_ | refine blk_alloc ?_ _)); exact BK107.out)⟩; have n1_ : Aside0 (Below w.heap.size w wc) := ⟨by rw [← hq_]; exact (by repeat (first | (with_reducible first | exact HB.out | apply below_alloc | apply pw_below_drewN | apply below_drew1 | refine below_set ?_ GE107.out) | exact HB.out))⟩; clear BK107 HB hq_; have BK107 := n0_; have HB := n1_; clear n0_ n1_))) | ((with_reducible refine gate_callee (f := 47) rfl ?_); refine goesL_ (some 108) rfl rfl Tryd.func47 (by kernel_rfl) rfl #[.string a0, .int .i64 x7_1, .string (⟨#[60, 33, 91, 67, 68, 65, 84, 65, 91]⟩ : ByteArray)] rfl (by (try simp only [List.map_toArray, List.map_cons, List.map_nil]); first | done | rfl | (simp only [List.length_drop, List.length_take]; rfl)) ?_; (with_reducible refine (spec_tagAt.calls a0 x7_1 (⟨#[60, 33, 91, 67, 68, 65, 84, 65, 91]⟩ : ByteArray) false _ A43.out).mono ?_); rintro e w' ⟨rfl, ⟨nd, rfl⟩⟩; refine ⟨_, rfl, ?_⟩; (try (rw [drewN_self wc]; generalize hq_ : World.drewN wc _ = wc; have n0_ : Aside0 (wc.heap[gb107]? = some (.cells #[.int .i64 x108000_1, .string x108001_1, .bool x108002_1, .int .i64 x108003_1] 30 (0, 0))) := ⟨by rw [← hq_]; exact (by (with_reducible repeat (first | refine blk_drewN ?_ _ | refine blk_drew ?_ | refine blk_alloc ?_ _)); exact BK107.out)⟩; have n1_ : Aside0 (Below w.heap.size w wc) := ⟨by rw [← hq_]; exact (by repeat (first | (with_reducible first | exact HB.out | apply below_alloc | apply pw_below_drewN | apply below_drew1 | refine below_set ?_ GE107.out) | exact HB.out))⟩; clear BK107 HB hq_; have BK107 := n0_; have HB := n1_; clear n0_ n1_))) | ((with_reducible refine gate_callee (f := 48) rfl ?_); refine goesL_ (some 131) rfl rfl Tryd.func48 (by kernel_rfl) rfl #[.string a0, .int .i64 (wrap64 (x7_1 + 2)), .string (⟨#[62]⟩ : ByteArray)] rfl (by (try simp only [List.map_toArray, List.map_cons, List.map_nil]); first | done | rfl | (simp only [List.length_drop, List.length_take]; rfl)) ?_; (with_reducible refine (spec_tagFind.calls kj24 a0 (wrap64 (x7_1 + 2)) (⟨#[62]⟩ : ByteArray) t122 _ A54.out).mono ?_); rintro e w' ⟨rfl, ⟨nd, rfl⟩⟩; refine ⟨_, rfl, ?_⟩; (try (rw [drewN_self wc]; generalize hq_ : World.drewN wc _ = wc; have n0_ : Aside0 (wc.heap[gb107]? = some (.cells #[.int .i64 x108000_1, .string x108001_1, .bool x108002_1, .int .i64 x108003_1] 30 (0, 0))) := ⟨by rw [← hq_]; exact (by (with_reducible repeat (first | refine blk_drewN ?_ _ | refine blk_drew ?_ | refine blk_alloc ?_ _)); exact BK107.out)⟩; have n1_ : Aside0 (Below w.heap.size w wc) := ⟨by rw [← hq_]; exact (by repeat (first | (with_reducible first | exact HB.out | apply below_alloc | apply pw_below_drewN | apply below_drew1 | refine below_set ?_ GE107.out) | exact HB.out))⟩; clear BK107 HB hq_; have BK107 := n0_; have HB := n1_; clear n0_ n1_)); have hcz55_0 : wc.cell? ⟨gb107, 0, none⟩ = some (.int .i64 x108000_1) := (blk_cell BK107.out 0).trans rfl; have hcz55_1 : wc.cell? ⟨gb107, 1, none⟩ = some (.string x108001_1) := (blk_cell BK107.out 1).trans rfl; have hcz55_2 : wc.cell? ⟨gb107, 2, none⟩ = some (.bool x108002_1) := (blk_cell BK107.out 2).trans rfl; have hcz55_3 : wc.cell? ⟨gb107, 3, none⟩ = some (.int .i64 x108003_1) := (blk_cell BK107.out 3).trans rfl; have hfz55_0 := blk_frozen BK107.out 0; have hfz55_1 := blk_frozen BK107.out 1; have hfz55_2 := blk_frozen BK107.out 2; have hfz55_3 := blk_frozen BK107.out 3))
                                  refine bodyPost_ret (results_ctt rfl _ _ gb107 30 #[.int .i64 3, .string (⟨#[]⟩ : ByteArray), .bool false, .int .i64 x7_1] (0, 0) _ rfl (by (with_reducible repeat (first | refine blk_drewN ?_ _ | refine blk_drew ?_ | refine blk_alloc ?_ _)); refine blk_put (cs := #[.int .i64 3, .string (⟨#[]⟩ : ByteArray), .bool false, .int .i64 x108003_1]) ?_ 3 _ rfl; (with_reducible repeat (first | refine blk_drewN ?_ _ | refine blk_drew ?_ | refine blk_alloc ?_ _)); refine blk_put (cs := #[.int .i64 3, .string (⟨#[]⟩ : ByteArray), .bool x108002_1, .int .i64 x108003_1]) ?_ 2 _ rfl; (with_reducible repeat (first | refine blk_drewN ?_ _ | refine blk_drew ?_ | refine blk_alloc ?_ _)); refine blk_put (cs := #[.int .i64 3, .string x108001_1, .bool x108002_1, .int .i64 x108003_1]) ?_ 1 _ rfl; (with_reducible repeat (first | refine blk_drewN ?_ _ | refine blk_drew ?_ | refine blk_alloc ?_ _)); refine blk_put (cs := #[.int .i64 x108000_1, .string x108001_1, .bool x108002_1, .int .i64 x108003_1]) ?_ 0 _ rfl; (with_reducible repeat (first | refine blk_drewN ?_ _ | refine blk_drew ?_ | refine blk_alloc ?_ _)); exact BK107.out) Tryd.underlying30 rfl (by kernel_rfl)) rfl ?_
                                  exact ⟨by first | rfl | (simp [errW_none, errW_some] <;> rfl) | (simp only [← hji9]; first | rfl | (simp [errW_none, errW_some] <;> rfl)) | (simp [*, errW_none, errW_some] <;> rfl), by repeat (first | (with_reducible first | exact HB.out | apply below_alloc | apply pw_below_drewN | apply below_drew1 | refine below_set ?_ GE107.out) | exact HB.out)⟩
                                · rw [if_neg c53] at H
                                  have c53b0 : ((bt a0 (ji9)) == 47) = false := beq_eq_false_iff_ne.mpr c53
                                  have c53b1 : ((bt a0 (ji9)) != 47) = true := bne_iff_ne.mpr c53
                                  have H' := Aside0.mk H
                                  clear H
                                  go_wp2_with (first | ((with_reducible refine gate_callee (f := 47) rfl ?_); refine goesL_ (some 98) rfl rfl Tryd.func47 (by kernel_rfl) rfl #[.string a0, .int .i64 x7_1, .string (⟨#[60, 33, 45, 45]⟩ : ByteArray)] rfl (by (try simp only [List.map_toArray, List.map_cons, List.map_nil]); first | done | rfl | (simp only [List.length_drop, List.length_take]; rfl)) ?_; (with_reducible refine (spec_tagAt.calls a0 x7_1 (⟨#[60, 33, 45, 45]⟩ : ByteArray) false _ A39.out).mono ?_); rintro e w' ⟨rfl, ⟨nd, rfl⟩⟩; refine ⟨_, rfl, ?_⟩) | ((with_reducible refine gate_callee (f := 47) rfl ?_); refine goesL_ (some 108) rfl rfl Tryd.func47 (by kernel_rfl) rfl #[.string a0, .int .i64 x7_1, .string (⟨#[60, 33, 91, 67, 68, 65, 84, 65, 91]⟩ : ByteArray)] rfl (by (try simp only [List.map_toArray, List.map_cons, List.map_nil]); first | done | rfl | (simp only [List.length_drop, List.length_take]; rfl)) ?_; (with_reducible refine (spec_tagAt.calls a0 x7_1 (⟨#[60, 33, 91, 67, 68, 65, 84, 65, 91]⟩ : ByteArray) false _ A43.out).mono ?_); rintro e w' ⟨rfl, ⟨nd, rfl⟩⟩; refine ⟨_, rfl, ?_⟩))
                                  go_roundg kj24
                                  case measure => have := HK1.out; have := HJ24.out; omega
                                  case rel => exact ⟨(wrap64 (x7_1 + 1)), (x108000_1), (x108001_1), (x108002_1), (x108003_1), (by first | rfl | (simp; done) | (simp [*]; done)), H', ⟨by have := HK1.out; have := HJ24.out; omega⟩, ⟨by (with_reducible repeat (first | refine blk_drewN ?_ _ | refine blk_drew ?_ | refine blk_alloc ?_ _)); exact BK107.out⟩, ⟨by repeat (first | (with_reducible first | exact HB.out | apply below_alloc | apply pw_below_drewN | apply below_drew1 | refine below_set ?_ GE107.out) | exact HB.out)⟩⟩
              · rw [if_neg c10] at H
                exact absurd H (by simp)
            · rw [if_neg c8] at H
              have c8b0 : ((bt a0 x7_1) == 60) = false := beq_eq_false_iff_ne.mpr c8
              have c8b1 : ((bt a0 x7_1) != 60) = true := bne_iff_ne.mpr c8
              have H' := Aside0.mk H
              clear H
              have p7 : 0 ≤ (x7_1 : Int) := of_decide_eq_true (by first | (with_reducible assumption) | assumption)
              have q7 : x7_1 < (a0.size : Int) := of_decide_eq_true (by first | (with_reducible assumption) | assumption)
              have hx7 := bt_at a0 x7_1
              replace p7 := eq_true p7
              replace q7 := eq_true q7
              go_wp2
              go_roundg k1
              case measure => have := HK1.out; omega
              case rel => exact ⟨(wrap64 (x7_1 + 1)), (x108000_1), (x108001_1), (x108002_1), (x108003_1), (by first | rfl | (simp; done) | (simp [*]; done)), H', ⟨by have := HK1.out; omega⟩, ⟨by (with_reducible repeat (first | refine blk_drewN ?_ _ | refine blk_drew ?_ | refine blk_alloc ?_ _)); exact BK107.out⟩, ⟨by repeat (first | (with_reducible first | exact HB.out | apply below_alloc | apply pw_below_drewN | apply below_drew1 | refine below_set ?_ GE107.out) | exact HB.out)⟩⟩
          · rw [if_neg c6] at H
            exact absurd H (by simp)
        · rw [if_neg c5] at H
          exact absurd H (by simp)
      · rw [if_neg c4] at H
        have c4b0 : decide ((wrap64 (x7_1 + 1)) < (a0.size : Int)) = false := decide_eq_false c4
        clear c4
        simp only [Option.some.injEq, Prod.mk.injEq] at H
        obtain ⟨rfl, rfl, rfl, rfl, rfl, rfl⟩ := H
        have hcz56_0 : wr.cell? ⟨gb107, 0, none⟩ = some (.int .i64 x108000_1) := (blk_cell BK107.out 0).trans rfl
        have hcz56_1 : wr.cell? ⟨gb107, 1, none⟩ = some (.string x108001_1) := (blk_cell BK107.out 1).trans rfl
        have hcz56_2 : wr.cell? ⟨gb107, 2, none⟩ = some (.bool x108002_1) := (blk_cell BK107.out 2).trans rfl
        have hcz56_3 : wr.cell? ⟨gb107, 3, none⟩ = some (.int .i64 x108003_1) := (blk_cell BK107.out 3).trans rfl
        have hfz56_0 := blk_frozen BK107.out 0
        have hfz56_1 := blk_frozen BK107.out 1
        have hfz56_2 := blk_frozen BK107.out 2
        have hfz56_3 := blk_frozen BK107.out 3
        go_wp2
        refine bodyPost_ret (results_ctt rfl _ _ gb107 30 #[.int .i64 0, .string (⟨#[]⟩ : ByteArray), .bool false, .int .i64 0] (0, 0) _ rfl (by (with_reducible repeat (first | refine blk_drewN ?_ _ | refine blk_drew ?_ | refine blk_alloc ?_ _)); refine blk_put (cs := #[.int .i64 0, .string (⟨#[]⟩ : ByteArray), .bool false, .int .i64 x108003_1]) ?_ 3 _ rfl; (with_reducible repeat (first | refine blk_drewN ?_ _ | refine blk_drew ?_ | refine blk_alloc ?_ _)); refine blk_put (cs := #[.int .i64 0, .string (⟨#[]⟩ : ByteArray), .bool x108002_1, .int .i64 x108003_1]) ?_ 2 _ rfl; (with_reducible repeat (first | refine blk_drewN ?_ _ | refine blk_drew ?_ | refine blk_alloc ?_ _)); refine blk_put (cs := #[.int .i64 0, .string x108001_1, .bool x108002_1, .int .i64 x108003_1]) ?_ 1 _ rfl; (with_reducible repeat (first | refine blk_drewN ?_ _ | refine blk_drew ?_ | refine blk_alloc ?_ _)); refine blk_put (cs := #[.int .i64 x108000_1, .string x108001_1, .bool x108002_1, .int .i64 x108003_1]) ?_ 0 _ rfl; (with_reducible repeat (first | refine blk_drewN ?_ _ | refine blk_drew ?_ | refine blk_alloc ?_ _)); exact BK107.out) Tryd.underlying30 rfl (by kernel_rfl)) rfl ?_
        exact ⟨by first | rfl | (simp [errW_none, errW_some] <;> rfl) | (simp [*, errW_none, errW_some] <;> rfl), by repeat (first | (with_reducible first | exact HB.out | apply below_alloc | apply pw_below_drewN | apply below_drew1 | refine below_set ?_ GE107.out) | exact HB.out)⟩

/-! ### spec_Tags: function 22 -/
def spec_Tags.l0 : Nat → ByteArray → Int → List (S27) → List (S32) → Int → Option ((List (S32)))
  | 0, _, _, _, _, _ => none
  | k + 1, x0, x1, x2, x7, x8 => if x8 < (x2.length : Int) then (if 0 ≤ x8 then (if 0 ≤ ((rd_T27 x2 x8).f1) then (if ((rd_T27 x2 x8).f1) ≤ (x0.size : Int) then (if ((rd_T27 x2 x8).f0) = 0 then ((spec_tagNext.f k (x0.extract 0 (((rd_T27 x2 x8).f1) : Int).toNat) x1).bind fun bt126 => (if x7.length < 2513169434916 then (spec_Tags.l0 k x0 bt126.2.2.2.2.1 x2 (x7 ++ [(⟨(⟨bt126.1, bt126.2.1, bt126.2.2.1, bt126.2.2.2.1⟩ : S30), bt126.2.2.2.2.2, bt126.2.2.2.2.1⟩ : S32)]) (wrap64 (x8 + 1))) else (none))) else ((spec_tagSkip.f (x0.extract 0 (((rd_T27 x2 x8).f1) : Int).toNat) x1 ((rd_T27 x2 x8).f2)).bind fun t136 => (if x7.length < 2513169434916 then (spec_Tags.l0 k x0 t136 x2 (x7 ++ [(⟨(⟨0, (⟨#[]⟩ : ByteArray), false, 0⟩ : S30), false, t136⟩ : S32)]) (wrap64 (x8 + 1))) else (none)))) else (none)) else (none)) else (none)) else (some x7)
def spec_Tags.f (k : Nat) (a0 : ByteArray) (a1 : Int) (l2 : List (S27)) : Option ((List (S32))) := spec_Tags.l0 k a0 a1 l2 ([] : List (S32)) 0
theorem spec_Tags.mono_l : ∀ k, (∀ y0 y1 y2 y3 y4, LeO (spec_Tags.l0 k y0 y1 y2 y3 y4) (spec_Tags.l0 (k + 1) y0 y1 y2 y3 y4))
  | 0 => fun _ _ _ _ _ r h => by simp [spec_Tags.l0] at h
  | k + 1 => by
    have ih0 := spec_Tags.mono_l k
    · intro y0 y1 y2 y3 y4
      unfold spec_Tags.l0
      repeat' first
      | (with_reducible exact ih0 _ _ _ _ _)
      | (with_reducible exact spec_tagNext.mono _ _ _)
      | (with_reducible exact LeO.refl _)
      | (with_reducible exact LeO.none _)
      | (with_reducible refine LeO.ite ?_ ?_)
      | (with_reducible refine LeO.bind ?_ (fun _ => ?_))
      | exact ih0 _ _ _ _ _
      | exact spec_tagNext.mono _ _ _
      | exact LeO.none _
      | refine LeO.ite ?_ ?_
      | refine LeO.bind ?_ (fun _ => ?_)
theorem spec_Tags.mono : ∀ a0 a1 a2 k, LeO (spec_Tags.f k a0 a1 a2) (spec_Tags.f (k + 1) a0 a1 a2) := by
  intro a0 a1 a2 k
  have ih0 := spec_Tags.mono_l k
  unfold spec_Tags.f
  repeat' first
      | (with_reducible exact ih0 _ _ _ _ _)
      | (with_reducible exact spec_tagNext.mono _ _ _)
      | (with_reducible exact LeO.refl _)
      | (with_reducible exact LeO.none _)
      | (with_reducible refine LeO.ite ?_ ?_)
      | (with_reducible refine LeO.bind ?_ (fun _ => ?_))
      | exact ih0 _ _ _ _ _
      | exact spec_tagNext.mono _ _ _
      | exact LeO.none _
      | refine LeO.ite ?_ ?_
      | refine LeO.bind ?_ (fun _ => ?_)
set_option maxHeartbeats 8000000 in
set_option maxRecDepth 100000 in
theorem spec_Tags.calls (k : Nat) (a0 : ByteArray) (a1 : Int) (A2 : Option Addr) (c2 : Nat) (l2 : List (S27)) (r : List (S32)) (w : World) (hr2 : Kd.C k27 w A2 l2.length l2) (hc2 : l2.length ≤ c2) (h : spec_Tags.f k a0 a1 l2 = some r) :
    Calls Tryd.prog 22 #[.string a0, .int .i64 a1, .slice A2 l2.length c2] w fun e w' => ∃ v0_ : Value, e = .returned (v0_) ∧ Kd.R k32 32 w' w.heap.size (fun _ => True) v0_ r ∧ Below w.heap.size w w' := by
  have hu32 := Tryd.underlying32
  have hu30 := Tryd.underlying30
  have HR2 := Aside0.mk hr2
  have HC2 := Aside0.mk hc2
  clear hr2 hc2
  have HB := Aside0.mk (Below.refl w.heap.size w)
  have H : (spec_Tags.l0 k a0 a1 l2 ([] : List (S32)) 0) = some r := h
  clear h
  have H' := Aside0.mk H
  clear H
  go_enter Tryd.func22, Tryd.ntmps22
  go_wp2
  try simp only [Act.put, List.setIfInBounds_toArray, List.set_cons_succ, List.set_cons_zero]
  go_loopg [1, 7, 8] k (fun kq v1 v7 v8 w' => ∃ (x1_1 : Int) (x7_1 : List (S32)) (x8_1 : Int), v1 = .int .i64 x1_1 ∧ v8 = .int .i64 x8_1 ∧ Aside0 (spec_Tags.l0 kq a0 x1_1 l2 x7_1 x8_1 = some r) ∧ Aside0 (kq ≤ k) ∧ Aside0 (Kd.R k32 32 w' w.heap.size (fun _ => True) v7 x7_1) ∧ Aside0 (Below w.heap.size w w'))
  case atStart => exact ⟨(a1), (([] : List (S32))), (0), (by first | rfl | (simp; done) | (simp [*]; done)), (by first | rfl | (simp; done) | (simp [*]; done)), H', ⟨Nat.le_refl _⟩, ⟨by first | exact Kd.R_nil _ _ _ _ _ | exact Kd.N_nil _ _ _ _ _ | exact Kd.V_nil _ _ _ _ _ | exact Kd.Q_nil _ _ _ _ _ | exact Kd.S_nil _ _ _ _ _⟩, ⟨by repeat (first | (with_reducible first | exact HB.out | apply below_alloc | apply pw_below_drewN | apply below_drew1) | exact HB.out)⟩⟩
  case round =>
    clear H'
    try clear c2
    try clear p2
    obtain ⟨x1_1, x7_1, x8_1, rfl, rfl, HA, HK1, HO_7, HB⟩ := hrel
    cases gk with
    | zero => exact absurd HA.out (by simp [spec_Tags.l0])
    | succ k1 =>
      have H := HA.out
      clear HA
      simp only [spec_Tags.l0] at H
      by_cases c4 : x8_1 < (l2.length : Int)
      · rw [if_pos c4] at H
        have c4b0 : decide (x8_1 < (l2.length : Int)) = true := decide_eq_true c4
        clear c4
        by_cases c5 : 0 ≤ x8_1
        · rw [if_pos c5] at H
          have c5b0 : decide (0 ≤ x8_1) = true := decide_eq_true c5
          clear c5
          by_cases c6 : 0 ≤ ((rd_T27 l2 x8_1).f1)
          · rw [if_pos c6] at H
            have c6b0 := eq_true c6
            have c6b1 : decide (0 ≤ ((rd_T27 l2 x8_1).f1)) = true := decide_eq_true c6
            clear c6
            by_cases c7 : ((rd_T27 l2 x8_1).f1) ≤ (a0.size : Int)
            · rw [if_pos c7] at H
              have c7b0 := eq_true c7
              have c7b1 : decide (((rd_T27 l2 x8_1).f1) ≤ (a0.size : Int)) = true := decide_eq_true c7
              clear c7
              by_cases c8 : ((rd_T27 l2 x8_1).f0) = 0
              · rw [if_pos c8] at H
                have c8b0 : (((rd_T27 l2 x8_1).f0) == 0) = true := beq_iff_eq.mpr c8
                have c8b1 : (((rd_T27 l2 x8_1).f0) != 0) = false := bne_eq_false_iff_eq.mpr c8
                clear c8
                replace H := Option.bind_eq_some_iff.mp H
                obtain ⟨⟨t126, t127, t128, t129, t130, t131⟩, A90, H⟩ := H
                replace H : (if x7_1.length < 2513169434916 then (spec_Tags.l0 k1 a0 t130 l2 (x7_1 ++ [(⟨(⟨t126, t127, t128, t129⟩ : S30), t131, t130⟩ : S32)]) (wrap64 (x8_1 + 1))) else (none)) = some r := H
                have A9 := Aside0.mk A90
                clear A90
                by_cases c10 : x7_1.length < 2513169434916
                · rw [if_pos c10] at H
                  have LMc10 := Aside0.mk c10
                  clear c10
                  obtain ⟨y132, hy132⟩ : ∃ y_ : List (S32), y_ = (x7_1 ++ [(⟨(⟨t126, t127, t128, t129⟩ : S30), t131, t130⟩ : S32)]) := ⟨_, rfl⟩
                  replace H : (spec_Tags.l0 k1 a0 t130 l2 y132 (wrap64 (x8_1 + 1))) = some r := by first | (rw [hy132]; with_reducible exact H) | (have H2_ := (Option.bind_some _ _).symm.trans H; rw [hy132]; with_reducible exact H2_) | (have H2_ := (Option.bind_some _ _).symm.trans H; with_reducible exact H2_) | with_reducible exact H | (rw [hy132]; exact H) | exact H
                  have Ny132 := Aside0.mk hy132
                  clear hy132
                  have H' := Aside0.mk H
                  clear H
                  go_wp2_with (first | ((with_reducible refine gate_dst (N := 9) rfl ?_); refine box_event ?hg (N := 9) ?hd (cs := #[.int .i64 0, .string (⟨#[]⟩ : ByteArray), .bool false, .int .i64 0, .bool false, .int .i64 0]) (t := 32) ?hr ?_; (case hd => rfl); (case hg => rfl); (case hr => first | (go_simp; done) | (go_simp; rfl)); intro gb123 hg w11 hbox hb; have n0_ := Aside0.mk (Kd.R_below (Kd.R_elderB (by (with_reducible repeat (first | apply Kd.R_alloc | apply Kd.R_drewN | apply Kd.R_drew)); exact HO_7.out) gb123 (Nat.le_of_eq hg.symm)) hb); have n1_ := Aside0.mk (below_step (by repeat (first | (with_reducible first | exact HB.out | apply below_alloc | apply pw_below_drewN | apply below_drew1) | exact HB.out)) hb); have n2_ := Aside0.mk (hbox); have n3_ := Aside0.mk ((by rw [hg]; exact (below_size (by repeat (first | (with_reducible first | exact HB.out | apply below_alloc | apply pw_below_drewN | apply below_drew1) | exact HB.out))) : w.heap.size ≤ gb123)); have n4_ := Aside0.mk ((by rw [hg]; exact (below_size (by repeat (first | (with_reducible first | exact HB.out | apply below_alloc | apply pw_below_drewN | apply below_drew1) | exact HB.out))) : w.heap.size ≤ gb123)); clear HO_7; clear HB; have HO_7 := n0_; have HB := n1_; have BK123 := n2_; have GW123 := n3_; have GE123 := n4_; clear n0_ n1_ n2_ n3_ n4_; clear hb hbox hg; have p124 : 0 ≤ (x8_1 : Int) := of_decide_eq_true (by first | (with_reducible assumption) | assumption); have q124 : x8_1 < (l2.length : Int) := of_decide_eq_true (by first | (with_reducible assumption) | assumption); obtain ⟨ad124, e124, hx124_0, hx124_1, hx124_2⟩ := at_T27 HR2.out x8_1 p124 q124; cases e124; replace hx124_0 := (HB.out.cell (World.block_lt_of_cell? w _ hx124_0)).trans hx124_0; replace hx124_1 := (HB.out.cell (World.block_lt_of_cell? w _ hx124_1)).trans hx124_1; replace hx124_2 := (HB.out.cell (World.block_lt_of_cell? w _ hx124_2)).trans hx124_2; replace p124 := eq_true p124; replace q124 := eq_true q124; have p125 : 0 ≤ (x8_1 : Int) := of_decide_eq_true (by first | (with_reducible assumption) | assumption); have q125 : x8_1 < (l2.length : Int) := of_decide_eq_true (by first | (with_reducible assumption) | assumption); obtain ⟨ad125, e125, hx125_0, hx125_1, hx125_2⟩ := at_T27 HR2.out x8_1 p125 q125; obtain rfl : ad124 = ad125 := (by injection e125); replace hx125_0 := (HB.out.cell (World.block_lt_of_cell? w _ hx125_0)).trans hx125_0; replace hx125_1 := (HB.out.cell (World.block_lt_of_cell? w _ hx125_1)).trans hx125_1; replace hx125_2 := (HB.out.cell (World.block_lt_of_cell? w _ hx125_2)).trans hx125_2; replace p125 := eq_true p125; replace q125 := eq_true q125) | ((with_reducible refine gate_callee (f := 34) rfl ?_); refine goesL_ (some 33) rfl rfl Tryd.func34 (by kernel_rfl) rfl #[.string (a0.extract 0 (((rd_T27 l2 x8_1).f1) : Int).toNat), .int .i64 x1_1] rfl (by (try simp only [List.map_toArray, List.map_cons, List.map_nil]); first | done | rfl | (simp only [List.length_drop, List.length_take]; rfl)) ?_; (with_reducible refine (spec_tagNext.calls k1 (a0.extract 0 (((rd_T27 l2 x8_1).f1) : Int).toNat) x1_1 t126 t127 t128 t129 t130 t131 _ A9.out).mono ?_); rintro e w12 ⟨rfl, hb⟩; refine ⟨_, rfl, ?_⟩; have n0_ := Aside0.mk (Kd.R_below (by (with_reducible repeat (first | apply Kd.R_alloc | apply Kd.R_drewN | apply Kd.R_drew)); exact HO_7.out) hb); have n1_ := Aside0.mk (blk_below (g := gb123) (o := .cells #[.int .i64 0, .string (⟨#[]⟩ : ByteArray), .bool false, .int .i64 0, .bool false, .int .i64 0] 32 (0, 0)) (by (with_reducible repeat (first | refine blk_drewN ?_ _ | refine blk_drew ?_ | refine blk_alloc ?_ _)); exact BK123.out) hb); have n2_ := Aside0.mk (below_step (by repeat (first | (with_reducible first | exact HB.out | apply below_alloc | apply pw_below_drewN | apply below_drew1 | refine below_set ?_ GE123.out) | exact HB.out)) hb); clear HO_7; clear BK123; clear HB; have HO_7 := n0_; have BK123 := n1_; have HB := n2_; clear n0_ n1_ n2_; (try clear hb); (try clear hb2); (try clear hk); (try clear hi); have hcz13_0 : w12.cell? ⟨gb123, 0, none⟩ = some (.int .i64 0) := (blk_cell BK123.out 0).trans rfl; have hcz13_1 : w12.cell? ⟨gb123, 1, none⟩ = some (.string (⟨#[]⟩ : ByteArray)) := (blk_cell BK123.out 1).trans rfl; have hcz13_2 : w12.cell? ⟨gb123, 2, none⟩ = some (.bool false) := (blk_cell BK123.out 2).trans rfl; have hcz13_3 : w12.cell? ⟨gb123, 3, none⟩ = some (.int .i64 0) := (blk_cell BK123.out 3).trans rfl; have hcz13_4 : w12.cell? ⟨gb123, 4, none⟩ = some (.bool false) := (blk_cell BK123.out 4).trans rfl; have hcz13_5 : w12.cell? ⟨gb123, 5, none⟩ = some (.int .i64 0) := (blk_cell BK123.out 5).trans rfl; have hfz13_0 := blk_frozen BK123.out 0; have hfz13_1 := blk_frozen BK123.out 1; have hfz13_2 := blk_frozen BK123.out 2; have hfz13_3 := blk_frozen BK123.out 3; have hfz13_4 := blk_frozen BK123.out 4; have hfz13_5 := blk_frozen BK123.out 5) | ((with_reducible refine gate_builtin (b := .append) (xs := #[.tmp 49, .tmp 51]) rfl ?_); at_builtin; refine Kd.R_append k32 (w0 := w) w.heap.size rfl (.tmp 49) (.tmp 51) 24 32 (.agg #[(.int .i64 0), (.string ⟨#[]⟩), (.bool false), (.int .i64 0), (.bool false), (.int .i64 0)]) 56 rfl Tryd.underlying24 info32 rfl (by decide) (by omega) u7 x7_1 (⟨(⟨t126, t127, t128, t129⟩ : S30), t131, t130⟩ : S32) [.int .i64 t126, .string t127, .bool t128, .int .i64 t129, .bool t131, .int .i64 t130] (fun k_ => k_ ≠ gb123) (fun _ => False) rfl (by first | (go_simp; done) | (go_simp; rfl)) ?aP (fun _ hk => hk.elim) ?aF ?aO ?aB ?aS ?aL ?_; (case aP => exact k32_mkM _ _ _ (⟨(⟨t126, t127, t128, t129⟩ : S30), t131, t130⟩ : S32)); (case aB => exact (by repeat (first | (with_reducible first | exact HB.out | apply below_alloc | apply pw_below_drewN | apply below_drew1 | refine below_set ?_ GE123.out) | exact HB.out))); (case aF => exact (fun k_ hk => Kd.freshB (g := gb123) (o := .cells #[.int .i64 t126, .string t127, .bool t128, .int .i64 t129, .bool t131, .int .i64 t130] 32 (0, 0)) (by (with_reducible repeat (first | refine blk_drewN ?_ _ | refine blk_drew ?_ | refine blk_alloc ?_ _)); refine blk_put (cs := #[.int .i64 t126, .string t127, .bool t128, .int .i64 t129, .bool t131, .int .i64 0]) ?_ 5 _ rfl; (with_reducible repeat (first | refine blk_drewN ?_ _ | refine blk_drew ?_ | refine blk_alloc ?_ _)); refine blk_put (cs := #[.int .i64 t126, .string t127, .bool t128, .int .i64 t129, .bool false, .int .i64 0]) ?_ 4 _ rfl; (with_reducible repeat (first | refine blk_drewN ?_ _ | refine blk_drew ?_ | refine blk_alloc ?_ _)); refine blk_put (cs := #[.int .i64 t126, .string t127, .bool t128, .int .i64 0, .bool false, .int .i64 0]) ?_ 3 _ rfl; (with_reducible repeat (first | refine blk_drewN ?_ _ | refine blk_drew ?_ | refine blk_alloc ?_ _)); refine blk_put (cs := #[.int .i64 t126, .string t127, .bool false, .int .i64 0, .bool false, .int .i64 0]) ?_ 2 _ rfl; (with_reducible repeat (first | refine blk_drewN ?_ _ | refine blk_drew ?_ | refine blk_alloc ?_ _)); refine blk_put (cs := #[.int .i64 t126, .string (⟨#[]⟩ : ByteArray), .bool false, .int .i64 0, .bool false, .int .i64 0]) ?_ 1 _ rfl; (with_reducible repeat (first | refine blk_drewN ?_ _ | refine blk_drew ?_ | refine blk_alloc ?_ _)); refine blk_put (cs := #[.int .i64 0, .string (⟨#[]⟩ : ByteArray), .bool false, .int .i64 0, .bool false, .int .i64 0]) ?_ 0 _ rfl; (with_reducible repeat (first | refine blk_drewN ?_ _ | refine blk_drew ?_ | refine blk_alloc ?_ _)); exact BK123.out) k_ hk)); (case aO => exact (by (with_reducible repeat (first | apply Kd.R_alloc | apply Kd.R_drewN | apply Kd.R_drew)); exact Kd.R_mono (Kd.R_far (p := ⟨gb123, 5, none⟩) (Kd.R_far (p := ⟨gb123, 4, none⟩) (Kd.R_far (p := ⟨gb123, 3, none⟩) (Kd.R_far (p := ⟨gb123, 2, none⟩) (Kd.R_far (p := ⟨gb123, 1, none⟩) (Kd.R_far (p := ⟨gb123, 0, none⟩) (Kd.R_mono HO_7.out (fun k_ hk => (⟨hk, hk.2⟩ : _ ∧ k_ ≠ gb123))) (fun _ hk => hk.2) (.int .i64 t126)) (fun _ hk => hk.2) (.string t127)) (fun _ hk => hk.2) (.bool t128)) (fun _ hk => hk.2) (.int .i64 t129)) (fun _ hk => hk.2) (.bool t131)) (fun _ hk => hk.2) (.int .i64 t130)) (fun _ hk => hk.1.2))); (case aS => exact (below_size (by repeat (first | (with_reducible first | exact HB.out | apply below_alloc | apply pw_below_drewN | apply below_drew1 | refine below_set ?_ GE123.out) | exact HB.out)))); (case aL => have := LMc10.out; omega); intro v133 w14 ho hb hg hat; rw [← Ny132.out] at ho; have n0_ := Aside0.mk (blk_grown (g := gb123) (o := .cells #[.int .i64 t126, .string t127, .bool t128, .int .i64 t129, .bool t131, .int .i64 t130] 32 (0, 0)) (by (with_reducible repeat (first | refine blk_drewN ?_ _ | refine blk_drew ?_ | refine blk_alloc ?_ _)); refine blk_put (cs := #[.int .i64 t126, .string t127, .bool t128, .int .i64 t129, .bool t131, .int .i64 0]) ?_ 5 _ rfl; (with_reducible repeat (first | refine blk_drewN ?_ _ | refine blk_drew ?_ | refine blk_alloc ?_ _)); refine blk_put (cs := #[.int .i64 t126, .string t127, .bool t128, .int .i64 t129, .bool false, .int .i64 0]) ?_ 4 _ rfl; (with_reducible repeat (first | refine blk_drewN ?_ _ | refine blk_drew ?_ | refine blk_alloc ?_ _)); refine blk_put (cs := #[.int .i64 t126, .string t127, .bool t128, .int .i64 0, .bool false, .int .i64 0]) ?_ 3 _ rfl; (with_reducible repeat (first | refine blk_drewN ?_ _ | refine blk_drew ?_ | refine blk_alloc ?_ _)); refine blk_put (cs := #[.int .i64 t126, .string t127, .bool false, .int .i64 0, .bool false, .int .i64 0]) ?_ 2 _ rfl; (with_reducible repeat (first | refine blk_drewN ?_ _ | refine blk_drew ?_ | refine blk_alloc ?_ _)); refine blk_put (cs := #[.int .i64 t126, .string (⟨#[]⟩ : ByteArray), .bool false, .int .i64 0, .bool false, .int .i64 0]) ?_ 1 _ rfl; (with_reducible repeat (first | refine blk_drewN ?_ _ | refine blk_drew ?_ | refine blk_alloc ?_ _)); refine blk_put (cs := #[.int .i64 0, .string (⟨#[]⟩ : ByteArray), .bool false, .int .i64 0, .bool false, .int .i64 0]) ?_ 0 _ rfl; (with_reducible repeat (first | refine blk_drewN ?_ _ | refine blk_drew ?_ | refine blk_alloc ?_ _)); exact BK123.out) hg (Kd.R_away HO_7.out (fun _ hk => hk.2))); have n1_ := Aside0.mk (hb); have n2_ := Aside0.mk (ho); clear BK123; clear HB; clear HO_7; have BK123 := n0_; have HB := n1_; have HO134 := n2_; clear n0_ n1_ n2_; clear ho hb hg hat))
                  go_roundg k1
                  case measure => have := HK1.out; omega
                  case rel => exact ⟨(t130), (y132), (wrap64 (x8_1 + 1)), (by first | rfl | (simp; done) | (simp [*]; done)), (by first | rfl | (simp; done) | (simp [*]; done)), H', ⟨by have := HK1.out; omega⟩, ⟨by (with_reducible repeat (first | apply Kd.R_alloc | apply Kd.R_drewN | apply Kd.R_drew)); exact Kd.R_mono HO134.out (fun _ hk => trivial)⟩, ⟨by repeat (first | (with_reducible first | exact HB.out | apply below_alloc | apply pw_below_drewN | apply below_drew1 | refine below_set ?_ GE123.out) | exact HB.out)⟩⟩
                · rw [if_neg c10] at H
                  exact absurd H (by simp)
              · rw [if_neg c8] at H
                have c8b0 : (((rd_T27 l2 x8_1).f0) == 0) = false := beq_eq_false_iff_ne.mpr c8
                have c8b1 : (((rd_T27 l2 x8_1).f0) != 0) = true := bne_iff_ne.mpr c8
                replace H := Option.bind_eq_some_iff.mp H
                obtain ⟨t136, A150, H⟩ := H
                replace H : (if x7_1.length < 2513169434916 then (spec_Tags.l0 k1 a0 t136 l2 (x7_1 ++ [(⟨(⟨0, (⟨#[]⟩ : ByteArray), false, 0⟩ : S30), false, t136⟩ : S32)]) (wrap64 (x8_1 + 1))) else (none)) = some r := H
                have A15 := Aside0.mk A150
                clear A150
                by_cases c16 : x7_1.length < 2513169434916
                · rw [if_pos c16] at H
                  have LMc16 := Aside0.mk c16
                  clear c16
                  obtain ⟨y137, hy137⟩ : ∃ y_ : List (S32), y_ = (x7_1 ++ [(⟨(⟨0, (⟨#[]⟩ : ByteArray), false, 0⟩ : S30), false, t136⟩ : S32)]) := ⟨_, rfl⟩
                  replace H : (spec_Tags.l0 k1 a0 t136 l2 y137 (wrap64 (x8_1 + 1))) = some r := by first | (rw [hy137]; with_reducible exact H) | (have H2_ := (Option.bind_some _ _).symm.trans H; rw [hy137]; with_reducible exact H2_) | (have H2_ := (Option.bind_some _ _).symm.trans H; with_reducible exact H2_) | with_reducible exact H | (rw [hy137]; exact H) | exact H
                  have Ny137 := Aside0.mk hy137
                  clear hy137
                  have H' := Aside0.mk H
                  clear H
                  go_wp2_with (first | ((with_reducible refine gate_dst (N := 9) rfl ?_); refine box_event ?hg (N := 9) ?hd (cs := #[.int .i64 0, .string (⟨#[]⟩ : ByteArray), .bool false, .int .i64 0, .bool false, .int .i64 0]) (t := 32) ?hr ?_; (case hd => rfl); (case hg => rfl); (case hr => first | (go_simp; done) | (go_simp; rfl)); intro gb123 hg w17 hbox hb; have n0_ := Aside0.mk (Kd.R_below (Kd.R_elderB (by (with_reducible repeat (first | apply Kd.R_alloc | apply Kd.R_drewN | apply Kd.R_drew)); exact HO_7.out) gb123 (Nat.le_of_eq hg.symm)) hb); have n1_ := Aside0.mk (below_step (by repeat (first | (with_reducible first | exact HB.out | apply below_alloc | apply pw_below_drewN | apply below_drew1) | exact HB.out)) hb); have n2_ := Aside0.mk (hbox); have n3_ := Aside0.mk ((by rw [hg]; exact (below_size (by repeat (first | (with_reducible first | exact HB.out | apply below_alloc | apply pw_below_drewN | apply below_drew1) | exact HB.out))) : w.heap.size ≤ gb123)); have n4_ := Aside0.mk ((by rw [hg]; exact (below_size (by repeat (first | (with_reducible first | exact HB.out | apply below_alloc | apply pw_below_drewN | apply below_drew1) | exact HB.out))) : w.heap.size ≤ gb123)); clear HO_7; clear HB; have HO_7 := n0_; have HB := n1_; have BK123 := n2_; have GW123 := n3_; have GE123 := n4_; clear n0_ n1_ n2_ n3_ n4_; clear hb hbox hg; have p124 : 0 ≤ (x8_1 : Int) := of_decide_eq_true (by first | (with_reducible assumption) | assumption); have q124 : x8_1 < (l2.length : Int) := of_decide_eq_true (by first | (with_reducible assumption) | assumption); obtain ⟨ad124, e124, hx124_0, hx124_1, hx124_2⟩ := at_T27 HR2.out x8_1 p124 q124; cases e124; replace hx124_0 := (HB.out.cell (World.block_lt_of_cell? w _ hx124_0)).trans hx124_0; replace hx124_1 := (HB.out.cell (World.block_lt_of_cell? w _ hx124_1)).trans hx124_1; replace hx124_2 := (HB.out.cell (World.block_lt_of_cell? w _ hx124_2)).trans hx124_2; replace p124 := eq_true p124; replace q124 := eq_true q124; have p125 : 0 ≤ (x8_1 : Int) := of_decide_eq_true (by first | (with_reducible assumption) | assumption); have q125 : x8_1 < (l2.length : Int) := of_decide_eq_true (by first | (with_reducible assumption) | assumption); obtain ⟨ad125, e125, hx125_0, hx125_1, hx125_2⟩ := at_T27 HR2.out x8_1 p125 q125; obtain rfl : ad124 = ad125 := (by injection e125); replace hx125_0 := (HB.out.cell (World.block_lt_of_cell? w _ hx125_0)).trans hx125_0; replace hx125_1 := (HB.out.cell (World.block_lt_of_cell? w _ hx125_1)).trans hx125_1; replace hx125_2 := (HB.out.cell (World.block_lt_of_cell? w _ hx125_2)).trans hx125_2; replace p125 := eq_true p125; replace q125 := eq_true q125; have p135 : 0 ≤ (x8_1 : Int) := of_decide_eq_true (by first | (with_reducible assumption) | assumption); have q135 : x8_1 < (l2.length : Int) := of_decide_eq_true (by first | (with_reducible assumption) | assumption); obtain ⟨ad135, e135, hx135_0, hx135_1, hx135_2⟩ := at_T27 HR2.out x8_1 p135 q135; obtain rfl : ad124 = ad135 := (by injection e135); replace hx135_0 := (HB.out.cell (World.block_lt_of_cell? w _ hx135_0)).trans hx135_0; replace hx135_1 := (HB.out.cell (World.block_lt_of_cell? w _ hx135_1)).trans hx135_1; replace hx135_2 := (HB.out.cell (World.block_lt_of_cell? w _ hx135_2)).trans hx135_2; replace p135 := eq_true p135; replace q135 := eq_true q135) | ((with_reducible refine gate_callee (f := 35) rfl ?_); refine goesL_ (some 46) rfl rfl Tryd.func35 (by kernel_rfl) rfl #[.string (a0.extract 0 (((rd_T27 l2 x8_1).f1) : Int).toNat), .int .i64 x1_1, .string ((rd_T27 l2 x8_1).f2)] rfl (by (try simp only [List.map_toArray, List.map_cons, List.map_nil]); first | done | rfl | (simp only [List.length_drop, List.length_take]; rfl)) ?_; (with_reducible refine (spec_tagSkip.calls (a0.extract 0 (((rd_T27 l2 x8_1).f1) : Int).toNat) x1_1 ((rd_T27 l2 x8_1).f2) t136 _ A15.out).mono ?_); rintro e w18 ⟨rfl, hb⟩; refine ⟨_, rfl, ?_⟩; have n0_ := Aside0.mk (Kd.R_below (by (with_reducible repeat (first | apply Kd.R_alloc | apply Kd.R_drewN | apply Kd.R_drew)); exact HO_7.out) hb); have n1_ := Aside0.mk (blk_below (g := gb123) (o := .cells #[.int .i64 0, .string (⟨#[]⟩ : ByteArray), .bool false, .int .i64 0, .bool false, .int .i64 0] 32 (0, 0)) (by (with_reducible repeat (first | refine blk_drewN ?_ _ | refine blk_drew ?_ | refine blk_alloc ?_ _)); exact BK123.out) hb); have n2_ := Aside0.mk (below_step (by repeat (first | (with_reducible first | exact HB.out | apply below_alloc | apply pw_below_drewN | apply below_drew1 | refine below_set ?_ GE123.out) | exact HB.out)) hb); clear HO_7; clear BK123; clear HB; have HO_7 := n0_; have BK123 := n1_; have HB := n2_; clear n0_ n1_ n2_; (try clear hb); (try clear hb2); (try clear hk); (try clear hi); have hcz19_0 : w18.cell? ⟨gb123, 0, none⟩ = some (.int .i64 0) := (blk_cell BK123.out 0).trans rfl; have hcz19_1 : w18.cell? ⟨gb123, 1, none⟩ = some (.string (⟨#[]⟩ : ByteArray)) := (blk_cell BK123.out 1).trans rfl; have hcz19_2 : w18.cell? ⟨gb123, 2, none⟩ = some (.bool false) := (blk_cell BK123.out 2).trans rfl; have hcz19_3 : w18.cell? ⟨gb123, 3, none⟩ = some (.int .i64 0) := (blk_cell BK123.out 3).trans rfl; have hcz19_4 : w18.cell? ⟨gb123, 4, none⟩ = some (.bool false) := (blk_cell BK123.out 4).trans rfl; have hcz19_5 : w18.cell? ⟨gb123, 5, none⟩ = some (.int .i64 0) := (blk_cell BK123.out 5).trans rfl; have hfz19_0 := blk_frozen BK123.out 0; have hfz19_1 := blk_frozen BK123.out 1; have hfz19_2 := blk_frozen BK123.out 2; have hfz19_3 := blk_frozen BK123.out 3; have hfz19_4 := blk_frozen BK123.out 4; have hfz19_5 := blk_frozen BK123.out 5) | ((with_reducible refine gate_builtin (b := .append) (xs := #[.tmp 49, .tmp 51]) rfl ?_); at_builtin; refine Kd.R_append k32 (w0 := w) w.heap.size rfl (.tmp 49) (.tmp 51) 24 32 (.agg #[(.int .i64 0), (.string ⟨#[]⟩), (.bool false), (.int .i64 0), (.bool false), (.int .i64 0)]) 56 rfl Tryd.underlying24 info32 rfl (by decide) (by omega) u7 x7_1 (⟨(⟨0, (⟨#[]⟩ : ByteArray), false, 0⟩ : S30), false, t136⟩ : S32) [.int .i64 0, .string (⟨#[]⟩ : ByteArray), .bool false, .int .i64 0, .bool false, .int .i64 t136] (fun k_ => k_ ≠ gb123) (fun _ => False) rfl (by first | (go_simp; done) | (go_simp; rfl)) ?aP (fun _ hk => hk.elim) ?aF ?aO ?aB ?aS ?aL ?_; (case aP => exact k32_mkM _ _ _ (⟨(⟨0, (⟨#[]⟩ : ByteArray), false, 0⟩ : S30), false, t136⟩ : S32)); (case aB => exact (by repeat (first | (with_reducible first | exact HB.out | apply below_alloc | apply pw_below_drewN | apply below_drew1 | refine below_set ?_ GE123.out) | exact HB.out))); (case aF => exact (fun k_ hk => Kd.freshB (g := gb123) (o := .cells #[.int .i64 0, .string (⟨#[]⟩ : ByteArray), .bool false, .int .i64 0, .bool false, .int .i64 t136] 32 (0, 0)) (by (with_reducible repeat (first | refine blk_drewN ?_ _ | refine blk_drew ?_ | refine blk_alloc ?_ _)); refine blk_put (cs := #[.int .i64 0, .string (⟨#[]⟩ : ByteArray), .bool false, .int .i64 0, .bool false, .int .i64 0]) ?_ 5 _ rfl; (with_reducible repeat (first | refine blk_drewN ?_ _ | refine blk_drew ?_ | refine blk_alloc ?_ _)); exact BK123.out) k_ hk)); (case aO => exact (by (with_reducible repeat (first | apply Kd.R_alloc | apply Kd.R_drewN | apply Kd.R_drew)); exact Kd.R_mono (Kd.R_far (p := ⟨gb123, 5, none⟩) (Kd.R_mono HO_7.out (fun k_ hk => (⟨hk, hk.2⟩ : _ ∧ k_ ≠ gb123))) (fun _ hk => hk.2) (.int .i64 t136)) (fun _ hk => hk.1.2))); (case aS => exact (below_size (by repeat (first | (with_reducible first | exact HB.out | apply below_alloc | apply pw_below_drewN | apply below_drew1 | refine below_set ?_ GE123.out) | exact HB.out)))); (case aL => have := LMc16.out; omega); intro v138 w20 ho hb hg hat; rw [← Ny137.out] at ho; have n0_ := Aside0.mk (blk_grown (g := gb123) (o := .cells #[.int .i64 0, .string (⟨#[]⟩ : ByteArray), .bool false, .int .i64 0, .bool false, .int .i64 t136] 32 (0, 0)) (by (with_reducible repeat (first | refine blk_drewN ?_ _ | refine blk_drew ?_ | refine blk_alloc ?_ _)); refine blk_put (cs := #[.int .i64 0, .string (⟨#[]⟩ : ByteArray), .bool false, .int .i64 0, .bool false, .int .i64 0]) ?_ 5 _ rfl; (with_reducible repeat (first | refine blk_drewN ?_ _ | refine blk_drew ?_ | refine blk_alloc ?_ _)); exact BK123.out) hg (Kd.R_away HO_7.out (fun _ hk => hk.2))); have n1_ := Aside0.mk (hb); have n2_ := Aside0.mk (ho); clear BK123; clear HB; clear HO_7; have BK123 := n0_; have HB := n1_; have HO139 := n2_; clear n0_ n1_ n2_; clear ho hb hg hat))
                  go_roundg k1
                  case measure => have := HK1.out; omega
                  case rel => exact ⟨(t136), (y137), (wrap64 (x8_1 + 1)), (by first | rfl | (simp; done) | (simp [*]; done)), (by first | rfl | (simp; done) | (simp [*]; done)), H', ⟨by have := HK1.out; omega⟩, ⟨by (with_reducible repeat (first | apply Kd.R_alloc | apply Kd.R_drewN | apply Kd.R_drew)); exact Kd.R_mono HO139.out (fun _ hk => trivial)⟩, ⟨by repeat (first | (with_reducible first | exact HB.out | apply below_alloc | apply pw_below_drewN | apply below_drew1 | refine below_set ?_ GE123.out) | exact HB.out)⟩⟩
                · rw [if_neg c16] at H
                  exact absurd H (by simp)
            · rw [if_neg c7] at H
              exact absurd H (by simp)
          · rw [if_neg c6] at H
            exact absurd H (by simp)
        · rw [if_neg c5] at H
          exact absurd H (by simp)
      · rw [if_neg c4] at H
        have c4b0 : decide (x8_1 < (l2.length : Int)) = false := decide_eq_false c4
        clear c4
        obtain rfl := Option.some.inj H
        go_wp2
        go_ret
        exact ⟨_, by first | rfl | (simp [errW_none, errW_some] <;> rfl) | (simp [*, errW_none, errW_some] <;> rfl), by (with_reducible repeat (first | apply Kd.R_alloc | apply Kd.R_drewN | apply Kd.R_drew)); exact HO_7.out, by repeat (first | (with_reducible first | exact HB.out | apply below_alloc | apply pw_below_drewN | apply below_drew1) | exact HB.out)⟩

/-! ### spec_tagAscii: function 33 -/
def spec_tagAscii.l0 : Nat → ByteArray → Int → Option (Bool)
  | 0, _, _ => none
  | k + 1, x0, x3 => if x3 < (x0.size : Int) then (if 0 ≤ x3 then (if (bt x0 x3) > 127 then (some false) else (spec_tagAscii.l0 k x0 (wrap64 (x3 + 1)))) else (none)) else (some true)
def spec_tagAscii.f (k : Nat) (a0 : ByteArray) : Option (Bool) := spec_tagAscii.l0 k a0 0
theorem spec_tagAscii.mono_l : ∀ k, (∀ y0 y1, LeO (spec_tagAscii.l0 k y0 y1) (spec_tagAscii.l0 (k + 1) y0 y1))
  | 0 => fun _ _ r h => by simp [spec_tagAscii.l0] at h
  | k + 1 => by
    have ih0 := spec_tagAscii.mono_l k
    · intro y0 y1
      unfold spec_tagAscii.l0
      repeat' first
      | (with_reducible exact ih0 _ _)
      | (with_reducible exact LeO.refl _)
      | (with_reducible exact LeO.none _)
      | (with_reducible refine LeO.ite ?_ ?_)
      | (with_reducible refine LeO.bind ?_ (fun _ => ?_))
      | exact ih0 _ _
      | exact LeO.none _
      | refine LeO.ite ?_ ?_
      | refine LeO.bind ?_ (fun _ => ?_)
theorem spec_tagAscii.mono : ∀ a0 k, LeO (spec_tagAscii.f k a0) (spec_tagAscii.f (k + 1) a0) := by
  intro a0 k
  have ih0 := spec_tagAscii.mono_l k
  unfold spec_tagAscii.f
  repeat' first
      | (with_reducible exact ih0 _ _)
      | (with_reducible exact LeO.refl _)
      | (with_reducible exact LeO.none _)
      | (with_reducible refine LeO.ite ?_ ?_)
      | (with_reducible refine LeO.bind ?_ (fun _ => ?_))
      | exact ih0 _ _
      | exact LeO.none _
      | refine LeO.ite ?_ ?_
      | refine LeO.bind ?_ (fun _ => ?_)
set_option maxHeartbeats 8000000 in
set_option maxRecDepth 100000 in
theorem spec_tagAscii.calls (k : Nat) (a0 : ByteArray) (r : Bool) (w : World) (h : spec_tagAscii.f k a0 = some r) :
    Calls Tryd.prog 33 #[.string a0] w fun e w' => e = .returned (.bool r) ∧ Drawn0 w w' := by
  have H : (spec_tagAscii.l0 k a0 0) = some r := h
  clear h
  have H' := Aside0.mk H
  clear H
  go_enter Tryd.func33, Tryd.ntmps33
  go_wp2
  try simp only [Act.put, List.setIfInBounds_toArray, List.set_cons_succ, List.set_cons_zero]
  go_loopg [3] k (fun kq v3 w' => ∃ (x3_1 : Int), v3 = .int .i64 x3_1 ∧ Aside0 (spec_tagAscii.l0 kq a0 x3_1 = some r) ∧ Aside0 (kq ≤ k) ∧ Drawn0 w w')
  case atStart => exact ⟨(0), (by first | rfl | (simp; done) | (simp [*]; done)), H', ⟨Nat.le_refl _⟩, by repeat (first | exact Drawn0.refl _ | apply Drawn0.step)⟩
  case round =>
    clear H'
    obtain ⟨x3_1, rfl, HA, HK1, ⟨m1, rfl⟩⟩ := hrel
    cases gk with
    | zero => exact absurd HA.out (by simp [spec_tagAscii.l0])
    | succ k1 =>
      have H := HA.out
      clear HA
      simp only [spec_tagAscii.l0] at H
      by_cases c2 : x3_1 < (a0.size : Int)
      · rw [if_pos c2] at H
        have c2b0 : decide (x3_1 < (a0.size : Int)) = true := decide_eq_true c2
        clear c2
        by_cases c3 : 0 ≤ x3_1
        · rw [if_pos c3] at H
          have c3b0 : decide (0 ≤ x3_1) = true := decide_eq_true c3
          clear c3
          by_cases c5 : (bt a0 x3_1) > 127
          · rw [if_pos c5] at H
            have c5b0 : decide (127 < (bt a0 x3_1)) = true := decide_eq_true c5
            clear c5
            obtain rfl := Option.some.inj H
            have p4 : 0 ≤ (x3_1 : Int) := of_decide_eq_true (by first | (with_reducible assumption) | assumption)
            have q4 : x3_1 < (a0.size : Int) := of_decide_eq_true (by first | (with_reducible assumption) | assumption)
            have hx4 := bt_at a0 x3_1
            replace p4 := eq_true p4
            replace q4 := eq_true q4
            go_wp2
            go_ret
            exact ⟨by first | rfl | (simp; done) | (simp [*]; done), by repeat (first | exact Drawn0.refl _ | apply Drawn0.step)⟩
          · rw [if_neg c5] at H
            have c5b0 : decide (127 < (bt a0 x3_1)) = false := decide_eq_false c5
            clear c5
            have H' := Aside0.mk H
            clear H
            have p4 : 0 ≤ (x3_1 : Int) := of_decide_eq_true (by first | (with_reducible assumption) | assumption)
            have q4 : x3_1 < (a0.size : Int) := of_decide_eq_true (by first | (with_reducible assumption) | assumption)
            have hx4 := bt_at a0 x3_1
            replace p4 := eq_true p4
            replace q4 := eq_true q4
            go_wp2
            go_roundg k1
            case measure => have := HK1.out; omega
            case rel => exact ⟨(wrap64 (x3_1 + 1)), (by first | rfl | (simp; done) | (simp [*]; done)), H', ⟨by have := HK1.out; omega⟩, by repeat (first | exact Drawn0.refl _ | apply Drawn0.step)⟩
        · rw [if_neg c3] at H
          exact absurd H (by simp)
      · rw [if_neg c2] at H
        have c2b0 : decide (x3_1 < (a0.size : Int)) = false := decide_eq_false c2
        clear c2
        obtain rfl := Option.some.inj H
        go_wp2
        go_ret
        exact ⟨by first | rfl | (simp; done) | (simp [*]; done), by repeat (first | exact Drawn0.refl _ | apply Drawn0.step)⟩

end Go.Proofs.YthjddnmfpdcjnaaDoor.PSp
