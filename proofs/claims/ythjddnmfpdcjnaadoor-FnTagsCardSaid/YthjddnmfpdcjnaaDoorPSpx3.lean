/- Printed by a program of this session (a printer turned to take contracts that were proved by hand): functions with the answers of the Go functions, and proofs that the code comes to these answers; no condition beyond what each theorem names. -/
import Derived.Test.YthjddnmfpdcjnaaDoorPSpx0
import Derived.Test.YthjddnmfpdcjnaaDoorPSpx2
namespace Go.Proofs.YthjddnmfpdcjnaaDoor.PSp
open Go.RowKit Go.Proofs.YthjddnmfpdcjnaaDoorW.PrintWords Go.Proofs.YthjddnmfpdcjnaaDoorW.PrintLast Go.Proofs.YthjddnmfpdcjnaaDoorW.PrintMore
attribute [local go_sem] max2_int min2_int max_two min_two max_three min_three max_four min_four   -- for this text's walks alone
set_option linter.unusedVariables false
set_option linter.unusedSimpArgs false

/-! ### spec_TagsKnown: function 21 -/
mutual
def spec_TagsKnown.j0 : Nat → ByteArray → Int → List (S27) → Bool → Option (Bool)
  | 0, _, _, _, _ => none
  | k + 1, x0, x1, x2, x21 => if x21 = true then (some false) else (spec_TagsKnown.l0 k x0 x1 x2 0)
def spec_TagsKnown.l0 : Nat → ByteArray → Int → List (S27) → Int → Option (Bool)
  | 0, _, _, _, _ => none
  | k + 1, x0, x1, x2, x7 => if x7 < (x2.length : Int) then (if 0 ≤ x7 then (if ((rd_T27 x2 x7).f0) = 0 then (if ((rd_T27 x2 x7).f1) < x1 then (some false) else (if ((rd_T27 x2 x7).f1) > (x0.size : Int) then (some false) else (if ((rd_T27 x2 x7).f0) = 1 then (if ((rd_T27 x2 x7).f2).toList = ([] : List UInt8) then (some false) else ((spec_tagAscii.f k ((rd_T27 x2 x7).f2)).bind fun t143 => (if t143 = true then (if x7 ≤ (wrap64 (x7 + 1)) then (if (wrap64 (x7 + 1)) ≤ (x2.length : Int) then ((spec_Tags.f k x0 x1 ((x2.take ((wrap64 (x7 + 1)) : Int).toNat).drop (x7 : Int).toNat)).bind fun t148 => (if 0 < (t148.length : Int) then (spec_TagsKnown.l0 k x0 ((rd_T32 t148 0).f2) x2 (wrap64 (x7 + 1))) else (none))) else (none)) else (none)) else (some false)))) else (if x7 ≤ (wrap64 (x7 + 1)) then (if (wrap64 (x7 + 1)) ≤ (x2.length : Int) then ((spec_Tags.f k x0 x1 ((x2.take ((wrap64 (x7 + 1)) : Int).toNat).drop (x7 : Int).toNat)).bind fun t156 => (if 0 < (t156.length : Int) then (spec_TagsKnown.l0 k x0 ((rd_T32 t156 0).f2) x2 (wrap64 (x7 + 1))) else (none))) else (none)) else (none))))) else (if ((rd_T27 x2 x7).f0) = 1 then (if ((rd_T27 x2 x7).f1) < x1 then (some false) else (if ((rd_T27 x2 x7).f1) > (x0.size : Int) then (some false) else (if ((rd_T27 x2 x7).f2).toList = ([] : List UInt8) then (some false) else ((spec_tagAscii.f k ((rd_T27 x2 x7).f2)).bind fun t160 => (if t160 = true then (if x7 ≤ (wrap64 (x7 + 1)) then (if (wrap64 (x7 + 1)) ≤ (x2.length : Int) then ((spec_Tags.f k x0 x1 ((x2.take ((wrap64 (x7 + 1)) : Int).toNat).drop (x7 : Int).toNat)).bind fun t165 => (if 0 < (t165.length : Int) then (spec_TagsKnown.l0 k x0 ((rd_T32 t165 0).f2) x2 (wrap64 (x7 + 1))) else (none))) else (none)) else (none)) else (some false)))))) else (some false))) else (none)) else (some true)
end
def spec_TagsKnown.f (k : Nat) (a0 : ByteArray) (a1 : Int) (l2 : List (S27)) : Option (Bool) := if a1 < 0 then (spec_TagsKnown.j0 k a0 a1 l2 true) else (if a1 > (a0.size : Int) then (spec_TagsKnown.j0 k a0 a1 l2 true) else ((spec_tagAscii.f k a0).bind fun t140 => (spec_TagsKnown.j0 k a0 a1 l2 (!t140))))
theorem spec_TagsKnown.mono_l : ∀ k, (∀ y0 y1 y2 y3, LeO (spec_TagsKnown.j0 k y0 y1 y2 y3) (spec_TagsKnown.j0 (k + 1) y0 y1 y2 y3)) ∧ (∀ y0 y1 y2 y3, LeO (spec_TagsKnown.l0 k y0 y1 y2 y3) (spec_TagsKnown.l0 (k + 1) y0 y1 y2 y3))
  | 0 => ⟨fun _ _ _ _ r h => by simp [spec_TagsKnown.j0] at h, fun _ _ _ _ r h => by simp [spec_TagsKnown.l0] at h⟩
  | k + 1 => by
    obtain ⟨ih0, ih1⟩ := spec_TagsKnown.mono_l k
    refine ⟨?_, ?_⟩
    · intro y0 y1 y2 y3
      unfold spec_TagsKnown.j0
      repeat' first
      | (with_reducible exact ih0 _ _ _ _)
      | (with_reducible exact ih1 _ _ _ _)
      | (with_reducible exact spec_Tags.mono _ _ _ _)
      | (with_reducible exact spec_tagAscii.mono _ _)
      | (with_reducible exact LeO.refl _)
      | (with_reducible exact LeO.none _)
      | (with_reducible refine LeO.ite ?_ ?_)
      | (with_reducible refine LeO.bind ?_ (fun _ => ?_))
      | exact ih0 _ _ _ _
      | exact ih1 _ _ _ _
      | exact spec_Tags.mono _ _ _ _
      | exact spec_tagAscii.mono _ _
      | exact LeO.none _
      | refine LeO.ite ?_ ?_
      | refine LeO.bind ?_ (fun _ => ?_)
    · intro y0 y1 y2 y3
      unfold spec_TagsKnown.l0
      repeat' first
      | (with_reducible exact ih0 _ _ _ _)
      | (with_reducible exact ih1 _ _ _ _)
      | (with_reducible exact spec_Tags.mono _ _ _ _)
      | (with_reducible exact spec_tagAscii.mono _ _)
      | (with_reducible exact LeO.refl _)
      | (with_reducible exact LeO.none _)
      | (with_reducible refine LeO.ite ?_ ?_)
      | (with_reducible refine LeO.bind ?_ (fun _ => ?_))
      | exact ih0 _ _ _ _
      | exact ih1 _ _ _ _
      | exact spec_Tags.mono _ _ _ _
      | exact spec_tagAscii.mono _ _
      | exact LeO.none _
      | refine LeO.ite ?_ ?_
      | refine LeO.bind ?_ (fun _ => ?_)
theorem spec_TagsKnown.mono : ∀ a0 a1 a2 k, LeO (spec_TagsKnown.f k a0 a1 a2) (spec_TagsKnown.f (k + 1) a0 a1 a2) := by
  intro a0 a1 a2 k
  obtain ⟨ih0, ih1⟩ := spec_TagsKnown.mono_l k
  unfold spec_TagsKnown.f
  repeat' first
      | (with_reducible exact ih0 _ _ _ _)
      | (with_reducible exact ih1 _ _ _ _)
      | (with_reducible exact spec_Tags.mono _ _ _ _)
      | (with_reducible exact spec_tagAscii.mono _ _)
      | (with_reducible exact LeO.refl _)
      | (with_reducible exact LeO.none _)
      | (with_reducible refine LeO.ite ?_ ?_)
      | (with_reducible refine LeO.bind ?_ (fun _ => ?_))
      | exact ih0 _ _ _ _
      | exact ih1 _ _ _ _
      | exact spec_Tags.mono _ _ _ _
      | exact spec_tagAscii.mono _ _
      | exact LeO.none _
      | refine LeO.ite ?_ ?_
      | refine LeO.bind ?_ (fun _ => ?_)
set_option maxHeartbeats 8000000 in
set_option maxRecDepth 100000 in
theorem spec_TagsKnown.calls (k : Nat) (a0 : ByteArray) (a1 : Int) (A2 : Option Addr) (c2 : Nat) (l2 : List (S27)) (r : Bool) (w : World) (hr2 : Kd.C k27 w A2 l2.length l2) (hc2 : l2.length ≤ c2) (h : spec_TagsKnown.f k a0 a1 l2 = some r) :
    Calls Tryd.prog 21 #[.string a0, .int .i64 a1, .slice A2 l2.length c2] w fun e w' => e = .returned (.bool r) ∧ Below w.heap.size w w' := by
  have hu27 := Tryd.underlying27
  have HR2 := Aside0.mk hr2
  have HC2 := Aside0.mk hc2
  clear hr2 hc2
  have HB := Aside0.mk (Below.refl w.heap.size w)
  have H : (if a1 < 0 then (spec_TagsKnown.j0 k a0 a1 l2 true) else (if a1 > (a0.size : Int) then (spec_TagsKnown.j0 k a0 a1 l2 true) else ((spec_tagAscii.f k a0).bind fun t140 => (spec_TagsKnown.j0 k a0 a1 l2 (!t140))))) = some r := h
  clear h
  have HC4 := Aside0.mk H
  clear H
  go_enter Tryd.func21, Tryd.ntmps21
  go_upto_region 1 with (fail)
  go_cut [21] (fun v21 wc => ∃ (kq : Nat) (x21_3 : Bool), v21 = .bool x21_3 ∧ Aside0 (spec_TagsKnown.j0 kq a0 a1 l2 x21_3 = some r) ∧ Aside0 (kq ≤ k) ∧ Aside0 (Below w.heap.size w wc))
  case first =>
    have H := HC4.out
    clear HC4
    by_cases c5 : a1 < 0
    · rw [if_pos c5] at H
      have c5b0 : decide (a1 < 0) = true := decide_eq_true c5
      clear c5
      (first | rw [c5b0] | (simp only [i64_w, i32_w]; rw [c5b0]) | skip)
      have H' := Aside0.mk H
      clear H
      go_wp2
      go_meet
      case rel => exact ⟨_, (true), (by first | rfl | (simp; done) | (simp [*]; done)), H', ⟨by first | omega | exact Nat.le_refl _⟩, ⟨by repeat (first | (with_reducible first | exact HB.out | apply below_alloc | apply pw_below_drewN | apply below_drew1) | exact HB.out)⟩⟩
    · rw [if_neg c5] at H
      have c5b0 : decide (a1 < 0) = false := decide_eq_false c5
      clear c5
      (first | rw [c5b0] | (simp only [i64_w, i32_w]; rw [c5b0]) | skip)
      by_cases c6 : a1 > (a0.size : Int)
      · rw [if_pos c6] at H
        have c6b0 : decide ((a0.size : Int) < a1) = true := decide_eq_true c6
        clear c6
        have H' := Aside0.mk H
        clear H
        go_wp2
        go_meet
        case rel => exact ⟨_, (true), (by first | rfl | (simp; done) | (simp [*]; done)), H', ⟨by first | omega | exact Nat.le_refl _⟩, ⟨by repeat (first | (with_reducible first | exact HB.out | apply below_alloc | apply pw_below_drewN | apply below_drew1) | exact HB.out)⟩⟩
      · rw [if_neg c6] at H
        have c6b0 : decide ((a0.size : Int) < a1) = false := decide_eq_false c6
        clear c6
        replace H := Option.bind_eq_some_iff.mp H
        obtain ⟨t140, A70, H⟩ := H
        replace H : (spec_TagsKnown.j0 k a0 a1 l2 (!t140)) = some r := H
        have A7 := Aside0.mk A70
        clear A70
        have H' := Aside0.mk H
        clear H
        go_wp2_with (first | (go_at_call 33; (with_reducible refine (spec_tagAscii.calls k a0 t140 _ A7.out).mono ?_); rintro e w' ⟨rfl, ⟨nd, rfl⟩⟩))
        go_meet
        case rel => exact ⟨_, (!t140), (by first | rfl | (simp; done) | (simp [*]; done)), H', ⟨by first | omega | exact Nat.le_refl _⟩, ⟨by repeat (first | (with_reducible first | exact HB.out | apply below_alloc | apply pw_below_drewN | apply below_drew1) | exact HB.out)⟩⟩
  case rest =>
    clear HC4
    try clear c2
    try clear p2
    try clear c5
    try clear c5b0
    try clear c6
    try clear c6b0
    obtain ⟨kq, x21_3, rfl, HA, HJ3, HB⟩ := hcut
    cases kq with
    | zero => exact absurd HA.out (by simp [spec_TagsKnown.j0])
    | succ kj3 =>
      have H := HA.out
      clear HA
      simp only [spec_TagsKnown.j0] at H
      by_cases c8 : x21_3 = true
      · subst c8
        have H1 : (some false) = some r := by rw [if_pos rfl] at H; exact H
        clear H
        have H := H1
        clear H1
        obtain rfl := Option.some.inj H
        go_wp2
        go_ret
        exact ⟨by first | rfl | (simp [errW_none, errW_some] <;> rfl) | (simp [*, errW_none, errW_some] <;> rfl), by repeat (first | (with_reducible first | exact HB.out | apply below_alloc | apply pw_below_drewN | apply below_drew1) | exact HB.out)⟩
      · replace c8 := Bool.eq_false_iff.mpr c8
        subst c8
        have H1 : (spec_TagsKnown.l0 kj3 a0 a1 l2 0) = some r := by rw [if_neg (show ¬ (false = true) by decide)] at H; exact H
        clear H
        have H := H1
        clear H1
        have H' := Aside0.mk H
        clear H
        go_wp2
        try simp only [Act.put, List.setIfInBounds_toArray, List.set_cons_succ, List.set_cons_zero]
        go_loopg [1, 7] kj3 (fun kq v1 v7 w' => ∃ (x1_2 : Int) (x7_2 : Int), v1 = .int .i64 x1_2 ∧ v7 = .int .i64 x7_2 ∧ Aside0 (spec_TagsKnown.l0 kq a0 x1_2 l2 x7_2 = some r) ∧ Aside0 (kq ≤ kj3) ∧ Aside0 (Below w.heap.size w w'))
        case atStart => exact ⟨(a1), (0), (by first | rfl | (simp; done) | (simp [*]; done)), (by first | rfl | (simp; done) | (simp [*]; done)), H', ⟨Nat.le_refl _⟩, ⟨by repeat (first | (with_reducible first | exact HB.out | apply below_alloc | apply pw_below_drewN | apply below_drew1) | exact HB.out)⟩⟩
        case round =>
          clear H'
          try clear c2
          try clear p2
          try clear c5
          try clear c5b0
          try clear c6
          try clear c6b0
          try clear c8
          try clear p2
          obtain ⟨x1_2, x7_2, rfl, rfl, HA, HK2, HB⟩ := hrel
          cases gk with
          | zero => exact absurd HA.out (by simp [spec_TagsKnown.l0])
          | succ k2 =>
            have H := HA.out
            clear HA
            simp only [spec_TagsKnown.l0] at H
            by_cases c9 : x7_2 < (l2.length : Int)
            · rw [if_pos c9] at H
              have c9b0 : decide (x7_2 < (l2.length : Int)) = true := decide_eq_true c9
              clear c9
              by_cases c10 : 0 ≤ x7_2
              · rw [if_pos c10] at H
                have c10b0 : decide (0 ≤ x7_2) = true := decide_eq_true c10
                clear c10
                by_cases c11 : ((rd_T27 l2 x7_2).f0) = 0
                · rw [if_pos c11] at H
                  have c11b0 : (((rd_T27 l2 x7_2).f0) == 0) = true := beq_iff_eq.mpr c11
                  have c11b1 : (((rd_T27 l2 x7_2).f0) != 0) = false := bne_eq_false_iff_eq.mpr c11
                  clear c11
                  by_cases c12 : ((rd_T27 l2 x7_2).f1) < x1_2
                  · rw [if_pos c12] at H
                    have c12b0 : decide (((rd_T27 l2 x7_2).f1) < x1_2) = true := decide_eq_true c12
                    clear c12
                    obtain rfl := Option.some.inj H
                    have p141 : 0 ≤ (x7_2 : Int) := of_decide_eq_true (by first | (with_reducible assumption) | assumption)
                    have q141 : x7_2 < (l2.length : Int) := of_decide_eq_true (by first | (with_reducible assumption) | assumption)
                    obtain ⟨ad141, e141, hx141_0, hx141_1, hx141_2⟩ := at_T27 HR2.out x7_2 p141 q141
                    cases e141
                    replace hx141_0 := (HB.out.cell (World.block_lt_of_cell? w _ hx141_0)).trans hx141_0
                    replace hx141_1 := (HB.out.cell (World.block_lt_of_cell? w _ hx141_1)).trans hx141_1
                    replace hx141_2 := (HB.out.cell (World.block_lt_of_cell? w _ hx141_2)).trans hx141_2
                    replace p141 := eq_true p141
                    replace q141 := eq_true q141
                    go_wp2_with (first | ((with_reducible refine gate_dst (N := 8) rfl ?_); (try (refine gate_guard (by rfl) ?_; dsimp only)); refine box_event ?hg (N := 8) ?hd (cs := #[.int .i64 0, .int .i64 0, .string (⟨#[]⟩ : ByteArray)]) (t := 27) ?hr ?_; (case hd => rfl); (case hg => rfl); (case hr => first | (go_simp; done) | (go_simp; rfl)); intro gb142 hg w13 hbox hb; have n0_ := Aside0.mk (below_step (by repeat (first | (with_reducible first | exact HB.out | apply below_alloc | apply pw_below_drewN | apply below_drew1) | exact HB.out)) hb); have n1_ := Aside0.mk (hbox); have n2_ := Aside0.mk ((by rw [hg]; exact (below_size (by repeat (first | (with_reducible first | exact HB.out | apply below_alloc | apply pw_below_drewN | apply below_drew1) | exact HB.out))) : w.heap.size ≤ gb142)); have n3_ := Aside0.mk ((by rw [hg]; exact (below_size (by repeat (first | (with_reducible first | exact HB.out | apply below_alloc | apply pw_below_drewN | apply below_drew1) | exact HB.out))) : w.heap.size ≤ gb142)); clear HB; have HB := n0_; have BK142 := n1_; have GW142 := n2_; have GE142 := n3_; clear n0_ n1_ n2_ n3_; clear hb hbox hg; have hcz14_0 : w13.cell? ⟨gb142, 0, none⟩ = some (.int .i64 0) := (blk_cell BK142.out 0).trans rfl; have hcz14_1 : w13.cell? ⟨gb142, 1, none⟩ = some (.int .i64 0) := (blk_cell BK142.out 1).trans rfl; have hcz14_2 : w13.cell? ⟨gb142, 2, none⟩ = some (.string (⟨#[]⟩ : ByteArray)) := (blk_cell BK142.out 2).trans rfl; have hfz14_0 := blk_frozen BK142.out 0; have hfz14_1 := blk_frozen BK142.out 1; have hfz14_2 := blk_frozen BK142.out 2))
                    go_ret
                    exact ⟨by first | rfl | (simp [errW_none, errW_some] <;> rfl) | (simp [*, errW_none, errW_some] <;> rfl), by repeat (first | (with_reducible first | exact HB.out | apply below_alloc | apply pw_below_drewN | apply below_drew1 | refine below_set ?_ GE142.out) | exact HB.out)⟩
                  · rw [if_neg c12] at H
                    have c12b0 : decide (((rd_T27 l2 x7_2).f1) < x1_2) = false := decide_eq_false c12
                    clear c12
                    by_cases c15 : ((rd_T27 l2 x7_2).f1) > (a0.size : Int)
                    · rw [if_pos c15] at H
                      have c15b0 : decide ((a0.size : Int) < ((rd_T27 l2 x7_2).f1)) = true := decide_eq_true c15
                      clear c15
                      obtain rfl := Option.some.inj H
                      have p141 : 0 ≤ (x7_2 : Int) := of_decide_eq_true (by first | (with_reducible assumption) | assumption)
                      have q141 : x7_2 < (l2.length : Int) := of_decide_eq_true (by first | (with_reducible assumption) | assumption)
                      obtain ⟨ad141, e141, hx141_0, hx141_1, hx141_2⟩ := at_T27 HR2.out x7_2 p141 q141
                      cases e141
                      replace hx141_0 := (HB.out.cell (World.block_lt_of_cell? w _ hx141_0)).trans hx141_0
                      replace hx141_1 := (HB.out.cell (World.block_lt_of_cell? w _ hx141_1)).trans hx141_1
                      replace hx141_2 := (HB.out.cell (World.block_lt_of_cell? w _ hx141_2)).trans hx141_2
                      replace p141 := eq_true p141
                      replace q141 := eq_true q141
                      go_wp2_with (first | ((with_reducible refine gate_dst (N := 8) rfl ?_); (try (refine gate_guard (by rfl) ?_; dsimp only)); refine box_event ?hg (N := 8) ?hd (cs := #[.int .i64 0, .int .i64 0, .string (⟨#[]⟩ : ByteArray)]) (t := 27) ?hr ?_; (case hd => rfl); (case hg => rfl); (case hr => first | (go_simp; done) | (go_simp; rfl)); intro gb142 hg w16 hbox hb; have n0_ := Aside0.mk (below_step (by repeat (first | (with_reducible first | exact HB.out | apply below_alloc | apply pw_below_drewN | apply below_drew1) | exact HB.out)) hb); have n1_ := Aside0.mk (hbox); have n2_ := Aside0.mk ((by rw [hg]; exact (below_size (by repeat (first | (with_reducible first | exact HB.out | apply below_alloc | apply pw_below_drewN | apply below_drew1) | exact HB.out))) : w.heap.size ≤ gb142)); have n3_ := Aside0.mk ((by rw [hg]; exact (below_size (by repeat (first | (with_reducible first | exact HB.out | apply below_alloc | apply pw_below_drewN | apply below_drew1) | exact HB.out))) : w.heap.size ≤ gb142)); clear HB; have HB := n0_; have BK142 := n1_; have GW142 := n2_; have GE142 := n3_; clear n0_ n1_ n2_ n3_; clear hb hbox hg; have hcz17_0 : w16.cell? ⟨gb142, 0, none⟩ = some (.int .i64 0) := (blk_cell BK142.out 0).trans rfl; have hcz17_1 : w16.cell? ⟨gb142, 1, none⟩ = some (.int .i64 0) := (blk_cell BK142.out 1).trans rfl; have hcz17_2 : w16.cell? ⟨gb142, 2, none⟩ = some (.string (⟨#[]⟩ : ByteArray)) := (blk_cell BK142.out 2).trans rfl; have hfz17_0 := blk_frozen BK142.out 0; have hfz17_1 := blk_frozen BK142.out 1; have hfz17_2 := blk_frozen BK142.out 2))
                      go_ret
                      exact ⟨by first | rfl | (simp [errW_none, errW_some] <;> rfl) | (simp [*, errW_none, errW_some] <;> rfl), by repeat (first | (with_reducible first | exact HB.out | apply below_alloc | apply pw_below_drewN | apply below_drew1 | refine below_set ?_ GE142.out) | exact HB.out)⟩
                    · rw [if_neg c15] at H
                      have c15b0 : decide ((a0.size : Int) < ((rd_T27 l2 x7_2).f1)) = false := decide_eq_false c15
                      clear c15
                      by_cases c18 : ((rd_T27 l2 x7_2).f0) = 1
                      · rw [if_pos c18] at H
                        have c18b0 : (((rd_T27 l2 x7_2).f0) == 1) = true := beq_iff_eq.mpr c18
                        have c18b1 : (((rd_T27 l2 x7_2).f0) != 1) = false := bne_eq_false_iff_eq.mpr c18
                        clear c18
                        by_cases c19 : ((rd_T27 l2 x7_2).f2).toList = ([] : List UInt8)
                        · rw [if_pos c19] at H
                          have c19b0 : (((rd_T27 l2 x7_2).f2).toList == ([] : List UInt8)) = true := beq_iff_eq.mpr c19
                          have c19b1 : (((rd_T27 l2 x7_2).f2).toList != ([] : List UInt8)) = false := bne_eq_false_iff_eq.mpr c19
                          clear c19
                          obtain rfl := Option.some.inj H
                          have p141 : 0 ≤ (x7_2 : Int) := of_decide_eq_true (by first | (with_reducible assumption) | assumption)
                          have q141 : x7_2 < (l2.length : Int) := of_decide_eq_true (by first | (with_reducible assumption) | assumption)
                          obtain ⟨ad141, e141, hx141_0, hx141_1, hx141_2⟩ := at_T27 HR2.out x7_2 p141 q141
                          cases e141
                          replace hx141_0 := (HB.out.cell (World.block_lt_of_cell? w _ hx141_0)).trans hx141_0
                          replace hx141_1 := (HB.out.cell (World.block_lt_of_cell? w _ hx141_1)).trans hx141_1
                          replace hx141_2 := (HB.out.cell (World.block_lt_of_cell? w _ hx141_2)).trans hx141_2
                          replace p141 := eq_true p141
                          replace q141 := eq_true q141
                          go_wp2_with (first | ((with_reducible refine gate_dst (N := 8) rfl ?_); (try (refine gate_guard (by rfl) ?_; dsimp only)); refine box_event ?hg (N := 8) ?hd (cs := #[.int .i64 0, .int .i64 0, .string (⟨#[]⟩ : ByteArray)]) (t := 27) ?hr ?_; (case hd => rfl); (case hg => rfl); (case hr => first | (go_simp; done) | (go_simp; rfl)); intro gb142 hg w20 hbox hb; have n0_ := Aside0.mk (below_step (by repeat (first | (with_reducible first | exact HB.out | apply below_alloc | apply pw_below_drewN | apply below_drew1) | exact HB.out)) hb); have n1_ := Aside0.mk (hbox); have n2_ := Aside0.mk ((by rw [hg]; exact (below_size (by repeat (first | (with_reducible first | exact HB.out | apply below_alloc | apply pw_below_drewN | apply below_drew1) | exact HB.out))) : w.heap.size ≤ gb142)); have n3_ := Aside0.mk ((by rw [hg]; exact (below_size (by repeat (first | (with_reducible first | exact HB.out | apply below_alloc | apply pw_below_drewN | apply below_drew1) | exact HB.out))) : w.heap.size ≤ gb142)); clear HB; have HB := n0_; have BK142 := n1_; have GW142 := n2_; have GE142 := n3_; clear n0_ n1_ n2_ n3_; clear hb hbox hg; have hcz21_0 : w20.cell? ⟨gb142, 0, none⟩ = some (.int .i64 0) := (blk_cell BK142.out 0).trans rfl; have hcz21_1 : w20.cell? ⟨gb142, 1, none⟩ = some (.int .i64 0) := (blk_cell BK142.out 1).trans rfl; have hcz21_2 : w20.cell? ⟨gb142, 2, none⟩ = some (.string (⟨#[]⟩ : ByteArray)) := (blk_cell BK142.out 2).trans rfl; have hfz21_0 := blk_frozen BK142.out 0; have hfz21_1 := blk_frozen BK142.out 1; have hfz21_2 := blk_frozen BK142.out 2))
                          go_ret
                          exact ⟨by first | rfl | (simp [errW_none, errW_some] <;> rfl) | (simp [*, errW_none, errW_some] <;> rfl), by repeat (first | (with_reducible first | exact HB.out | apply below_alloc | apply pw_below_drewN | apply below_drew1 | refine below_set ?_ GE142.out) | exact HB.out)⟩
                        · rw [if_neg c19] at H
                          have c19b0 : (((rd_T27 l2 x7_2).f2).toList == ([] : List UInt8)) = false := beq_eq_false_iff_ne.mpr c19
                          have c19b1 : (((rd_T27 l2 x7_2).f2).toList != ([] : List UInt8)) = true := bne_iff_ne.mpr c19
                          replace H := Option.bind_eq_some_iff.mp H
                          obtain ⟨t143, A220, H⟩ := H
                          replace H : (if t143 = true then (if x7_2 ≤ (wrap64 (x7_2 + 1)) then (if (wrap64 (x7_2 + 1)) ≤ (l2.length : Int) then ((spec_Tags.f k2 a0 x1_2 ((l2.take ((wrap64 (x7_2 + 1)) : Int).toNat).drop (x7_2 : Int).toNat)).bind fun t148 => (if 0 < (t148.length : Int) then (spec_TagsKnown.l0 k2 a0 ((rd_T32 t148 0).f2) l2 (wrap64 (x7_2 + 1))) else (none))) else (none)) else (none)) else (some false)) = some r := H
                          have A22 := Aside0.mk A220
                          clear A220
                          by_cases c23 : t143 = true
                          · subst c23
                            have H1 : (if x7_2 ≤ (wrap64 (x7_2 + 1)) then (if (wrap64 (x7_2 + 1)) ≤ (l2.length : Int) then ((spec_Tags.f k2 a0 x1_2 ((l2.take ((wrap64 (x7_2 + 1)) : Int).toNat).drop (x7_2 : Int).toNat)).bind fun t148 => (if 0 < (t148.length : Int) then (spec_TagsKnown.l0 k2 a0 ((rd_T32 t148 0).f2) l2 (wrap64 (x7_2 + 1))) else (none))) else (none)) else (none)) = some r := by rw [if_pos rfl] at H; exact H
                            clear H
                            have H := H1
                            clear H1
                            have c24b0 := eq_true (of_decide_eq_true (by first | (with_reducible assumption) | assumption) : 0 ≤ x7_2)
                            by_cases c25 : x7_2 ≤ (wrap64 (x7_2 + 1))
                            · rw [if_pos c25] at H
                              have c25b0 := eq_true c25
                              have c25b1 : decide (x7_2 ≤ (wrap64 (x7_2 + 1))) = true := decide_eq_true c25
                              by_cases c26 : (wrap64 (x7_2 + 1)) ≤ (l2.length : Int)
                              · rw [if_pos c26] at H
                                have c26b0 := eq_true c26
                                have c26b1 : decide ((wrap64 (x7_2 + 1)) ≤ (l2.length : Int)) = true := decide_eq_true c26
                                obtain ⟨y144, hy144⟩ : ∃ y_ : List (S27), y_ = ((l2.take ((wrap64 (x7_2 + 1)) : Int).toNat).drop (x7_2 : Int).toNat) := ⟨_, rfl⟩
                                replace H : ((spec_Tags.f k2 a0 x1_2 y144).bind fun t148 => (if 0 < (t148.length : Int) then (spec_TagsKnown.l0 k2 a0 ((rd_T32 t148 0).f2) l2 (wrap64 (x7_2 + 1))) else (none))) = some r := by first | (rw [hy144]; with_reducible exact H) | (have H2_ := (Option.bind_some _ _).symm.trans H; rw [hy144]; with_reducible exact H2_) | (have H2_ := (Option.bind_some _ _).symm.trans H; with_reducible exact H2_) | with_reducible exact H | (rw [hy144]; exact H) | exact H
                                have Ny144 := Aside0.mk hy144
                                clear hy144
                                replace H := Option.bind_eq_some_iff.mp H
                                obtain ⟨t148, A270, H⟩ := H
                                replace H : (if 0 < (t148.length : Int) then (spec_TagsKnown.l0 k2 a0 ((rd_T32 t148 0).f2) l2 (wrap64 (x7_2 + 1))) else (none)) = some r := H
                                have A27 := Aside0.mk A270
                                clear A270
                                by_cases c28 : 0 < (t148.length : Int)
                                · rw [if_pos c28] at H
                                  have c28b0 : decide (0 < (t148.length : Int)) = true := decide_eq_true c28
                                  have c28b1 : decide (0 < t148.length) = true := decide_eq_true (by omega)
                                  clear c28
                                  have H' := Aside0.mk H
                                  clear H
                                  have p141 : 0 ≤ (x7_2 : Int) := of_decide_eq_true (by first | (with_reducible assumption) | assumption)
                                  have q141 : x7_2 < (l2.length : Int) := of_decide_eq_true (by first | (with_reducible assumption) | assumption)
                                  obtain ⟨ad141, e141, hx141_0, hx141_1, hx141_2⟩ := at_T27 HR2.out x7_2 p141 q141
                                  cases e141
                                  replace hx141_0 := (HB.out.cell (World.block_lt_of_cell? w _ hx141_0)).trans hx141_0
                                  replace hx141_1 := (HB.out.cell (World.block_lt_of_cell? w _ hx141_1)).trans hx141_1
                                  replace hx141_2 := (HB.out.cell (World.block_lt_of_cell? w _ hx141_2)).trans hx141_2
                                  replace p141 := eq_true p141
                                  replace q141 := eq_true q141
                                  go_wp2_with (first | ((with_reducible refine gate_dst (N := 8) rfl ?_); (try (refine gate_guard (by rfl) ?_; dsimp only)); refine box_event ?hg (N := 8) ?hd (cs := #[.int .i64 0, .int .i64 0, .string (⟨#[]⟩ : ByteArray)]) (t := 27) ?hr ?_; (case hd => rfl); (case hg => rfl); (case hr => first | (go_simp; done) | (go_simp; rfl)); intro gb142 hg w29 hbox hb; have n0_ := Aside0.mk (below_step (by repeat (first | (with_reducible first | exact HB.out | apply below_alloc | apply pw_below_drewN | apply below_drew1) | exact HB.out)) hb); have n1_ := Aside0.mk (hbox); have n2_ := Aside0.mk ((by rw [hg]; exact (below_size (by repeat (first | (with_reducible first | exact HB.out | apply below_alloc | apply pw_below_drewN | apply below_drew1) | exact HB.out))) : w.heap.size ≤ gb142)); have n3_ := Aside0.mk ((by rw [hg]; exact (below_size (by repeat (first | (with_reducible first | exact HB.out | apply below_alloc | apply pw_below_drewN | apply below_drew1) | exact HB.out))) : w.heap.size ≤ gb142)); clear HB; have HB := n0_; have BK142 := n1_; have GW142 := n2_; have GE142 := n3_; clear n0_ n1_ n2_ n3_; clear hb hbox hg; have hcz30_0 : w29.cell? ⟨gb142, 0, none⟩ = some (.int .i64 0) := (blk_cell BK142.out 0).trans rfl; have hcz30_1 : w29.cell? ⟨gb142, 1, none⟩ = some (.int .i64 0) := (blk_cell BK142.out 1).trans rfl; have hcz30_2 : w29.cell? ⟨gb142, 2, none⟩ = some (.string (⟨#[]⟩ : ByteArray)) := (blk_cell BK142.out 2).trans rfl; have hfz30_0 := blk_frozen BK142.out 0; have hfz30_1 := blk_frozen BK142.out 1; have hfz30_2 := blk_frozen BK142.out 2) | ((with_reducible refine gate_store (t := 27) (p := 8) rfl ?_); refine store_event (t := 27) (p := 8) (v := ?vo_w31) (w1 := (((w29.setCell ⟨gb142, 0, none⟩ (.int .i64 ((rd_T27 l2 x7_2).f0))).setCell ⟨gb142, 1, none⟩ (.int .i64 ((rd_T27 l2 x7_2).f1))).setCell ⟨gb142, 2, none⟩ (.string ((rd_T27 l2 x7_2).f2)))) ?hg ?ho ?hn ?hr ?_; (case ho => rfl); (case hg => rfl); (case hn => rfl); (case hr => first | (go_simp; done) | (go_simp; rfl)); intro w31 hw; have n0_ : Aside0 (w31.heap[gb142]? = some (.cells #[.int .i64 ((rd_T27 l2 x7_2).f0), .int .i64 ((rd_T27 l2 x7_2).f1), .string ((rd_T27 l2 x7_2).f2)] 27 (0, 0))) := ⟨(by rw [hw]; exact (by (with_reducible repeat (first | refine blk_drewN ?_ _ | refine blk_drew ?_ | refine blk_alloc ?_ _)); refine blk_put (cs := #[.int .i64 ((rd_T27 l2 x7_2).f0), .int .i64 ((rd_T27 l2 x7_2).f1), .string (⟨#[]⟩ : ByteArray)]) ?_ 2 _ rfl; (with_reducible repeat (first | refine blk_drewN ?_ _ | refine blk_drew ?_ | refine blk_alloc ?_ _)); refine blk_put (cs := #[.int .i64 ((rd_T27 l2 x7_2).f0), .int .i64 0, .string (⟨#[]⟩ : ByteArray)]) ?_ 1 _ rfl; (with_reducible repeat (first | refine blk_drewN ?_ _ | refine blk_drew ?_ | refine blk_alloc ?_ _)); refine blk_put (cs := #[.int .i64 0, .int .i64 0, .string (⟨#[]⟩ : ByteArray)]) ?_ 0 _ rfl; (with_reducible repeat (first | refine blk_drewN ?_ _ | refine blk_drew ?_ | refine blk_alloc ?_ _)); exact BK142.out))⟩; have n1_ : Aside0 (Below w.heap.size w w31) := ⟨(by rw [hw]; exact (by repeat (first | (with_reducible first | exact HB.out | apply below_alloc | apply pw_below_drewN | apply below_drew1 | refine below_set ?_ GE142.out) | exact HB.out)))⟩; clear hw; clear BK142; clear HB; have BK142 := n0_; have HB := n1_; clear n0_ n1_; have hcz32_0 : w31.cell? ⟨gb142, 0, none⟩ = some (.int .i64 ((rd_T27 l2 x7_2).f0)) := (blk_cell BK142.out 0).trans rfl; have hcz32_1 : w31.cell? ⟨gb142, 1, none⟩ = some (.int .i64 ((rd_T27 l2 x7_2).f1)) := (blk_cell BK142.out 1).trans rfl; have hcz32_2 : w31.cell? ⟨gb142, 2, none⟩ = some (.string ((rd_T27 l2 x7_2).f2)) := (blk_cell BK142.out 2).trans rfl; have hfz32_0 := blk_frozen BK142.out 0; have hfz32_1 := blk_frozen BK142.out 1; have hfz32_2 := blk_frozen BK142.out 2) | (go_at_call 33; (with_reducible refine (spec_tagAscii.calls k2 ((rd_T27 l2 x7_2).f2) true _ A22.out).mono ?_); rintro e w' ⟨rfl, ⟨nd, rfl⟩⟩; have q33 : ((wrap64 (x7_2 + 1)) : Int) ≤ ((l2.length : Int) : Int) := of_decide_eq_true (by first | (with_reducible assumption) | assumption); obtain ⟨i033, hi033, _, hsz33, _⟩ := info_parts info27; have hroom33 : l2.length ≤ c2 := HC2.out; have hC33 : Kd.C k27 _ (some ad141) l2.length l2 := HR2.out; have ql33 : (x7_2 : Int) ≤ ((wrap64 (x7_2 + 1)) : Int) := of_decide_eq_true (by first | (with_reducible assumption) | assumption); have q033 : (0 : Int) ≤ (x7_2 : Int) := of_decide_eq_true (by first | (with_reducible assumption) | assumption); have hcut33 := cut_mid (P := Tryd.prog) 28 27 .i64 .i64 Tryd.underlying28 hi033 3 hsz33 (some ad141) l2.length c2 x7_2 (wrap64 (x7_2 + 1)) q033 ql33 q33 hroom33; have hr33 := Kd.C_mid (lo := (x7_2 : Int).toNat) (hi := ((wrap64 (x7_2 + 1)) : Int).toNat) (c := c2) hC33 (by omega) (by omega) hroom33; obtain ⟨A33, hA33⟩ : ∃ A1, A1 = (if c2 = (x7_2 : Int).toNat then (some ad141) else ((some ad141) : Option Addr).map (·.add ((x7_2 : Int).toNat * 3))) := ⟨_, rfl⟩; obtain ⟨c33, hc33⟩ : ∃ c1, c1 = c2 - (x7_2 : Int).toNat := ⟨_, rfl⟩; have hy33 : y144.length = ((wrap64 (x7_2 + 1)) : Int).toNat - (x7_2 : Int).toNat := (by rw [Ny144.out, List.length_drop, List.length_take] <;> omega); rw [show ((l2).take ((wrap64 (x7_2 + 1)) : Int).toNat).drop (x7_2 : Int).toNat = y144 from Ny144.out.symm] at hr33; replace hr33 : Kd.C k27 _ A33 y144.length y144 := (by rw [hA33]; exact hr33); rw [← hy33, ← hA33, ← hc33] at hcut33; have HR147 := Aside0.mk hr33; have HC147 := Aside0.mk (show y144.length ≤ c33 from by rw [hy33, hc33]; exact Nat.sub_le_sub_right (Nat.le_trans (by omega) hroom33) _); clear hr33 hC33 hroom33 hi033 hsz33 hc33; have KY33 := Aside0.mk hy33; have KA33 := Aside0.mk hA33; clear hy33 hA33; replace q33 := eq_true q33) | ((with_reducible refine gate_callee (f := 22) rfl ?_); refine goesL_ (some 76) rfl rfl Tryd.func22 (by kernel_rfl) rfl #[.string a0, .int .i64 x1_2, .slice A33 y144.length c33] rfl (by (try simp only [List.map_toArray, List.map_cons, List.map_nil]); first | done | rfl | (simp only [List.length_drop, List.length_take]; rfl)) ?_; (with_reducible refine (spec_Tags.calls k2 a0 x1_2 _ _ y144 t148 _ ?side1 ?side2 A27.out).mono ?_); (case side1 => repeat (first | exact (Kd.C_below HR147.out (by repeat (first | (with_reducible first | exact HB.out | apply below_alloc | apply pw_below_drewN | apply below_drew1 | refine below_set ?_ GE142.out) | exact HB.out))) | (with_reducible refine Kd.C_alloc ?_ _) | (with_reducible refine Kd.C_drewN ?_ _) | (with_reducible refine Kd.C_drew ?_))); (case side2 => exact HC147.out); rintro e w34 ⟨v149, rfl, ho0, hb⟩; refine ⟨_, rfl, ?_⟩; have n0_ := Aside0.mk (Kd.R_lower ho0 (below_size (by repeat (first | (with_reducible first | exact HB.out | apply below_alloc | apply pw_below_drewN | apply below_drew1 | refine below_set ?_ GE142.out) | exact HB.out)))); have n1_ := Aside0.mk (blk_below (g := gb142) (o := .cells #[.int .i64 ((rd_T27 l2 x7_2).f0), .int .i64 ((rd_T27 l2 x7_2).f1), .string ((rd_T27 l2 x7_2).f2)] 27 (0, 0)) (by (with_reducible repeat (first | refine blk_drewN ?_ _ | refine blk_drew ?_ | refine blk_alloc ?_ _)); exact BK142.out) hb); have n2_ := Aside0.mk (below_step (by repeat (first | (with_reducible first | exact HB.out | apply below_alloc | apply pw_below_drewN | apply below_drew1 | refine below_set ?_ GE142.out) | exact HB.out)) hb); clear BK142; clear HB; have HO150 := n0_; have BK142 := n1_; have HB := n2_; clear n0_ n1_ n2_; (try clear hb); (try clear hb2); (try clear hk); (try clear hi); (try clear ho0); obtain ⟨Ao35, co35, eo35⟩ := Kd.R_slice HO150.out; subst eo35; have p151 : 0 ≤ (0 : Int) := (by omega); have q151 : 0 < (t148.length : Int) := of_decide_eq_true (by first | (with_reducible assumption) | assumption); obtain ⟨ad151, e151, hx151_0, hx151_1, hx151_2, hx151_3, hx151_4, hx151_5⟩ := at_T32 (Kd.R_reads' HO150.out).2.2 0 p151 q151; cases e151; have qi151 : (0 < t148.length) = True := eq_true (by omega); (try rw [show ((0 : Int)).toNat = 0 from rfl] at hx151_0); (try rw [show 0 * 6 = 0 from rfl] at hx151_0); (try rw [Addr.add_zero'] at hx151_0); (try rw [show ((0 : Int)).toNat = 0 from rfl] at hx151_1); (try rw [show 0 * 6 = 0 from rfl] at hx151_1); (try rw [Addr.add_zero'] at hx151_1); (try rw [show ((0 : Int)).toNat = 0 from rfl] at hx151_2); (try rw [show 0 * 6 = 0 from rfl] at hx151_2); (try rw [Addr.add_zero'] at hx151_2); (try rw [show ((0 : Int)).toNat = 0 from rfl] at hx151_3); (try rw [show 0 * 6 = 0 from rfl] at hx151_3); (try rw [Addr.add_zero'] at hx151_3); (try rw [show ((0 : Int)).toNat = 0 from rfl] at hx151_4); (try rw [show 0 * 6 = 0 from rfl] at hx151_4); (try rw [Addr.add_zero'] at hx151_4); (try rw [show ((0 : Int)).toNat = 0 from rfl] at hx151_5); (try rw [show 0 * 6 = 0 from rfl] at hx151_5); (try rw [Addr.add_zero'] at hx151_5); replace p151 := eq_true p151; replace q151 := eq_true q151))
                                  go_roundg k2
                                  case measure => have := HJ3.out; have := HK2.out; omega
                                  case rel => exact ⟨((rd_T32 t148 0).f2), (wrap64 (x7_2 + 1)), (by first | rfl | (simp; done) | (simp [*]; done)), (by first | rfl | (simp; done) | (simp [*]; done)), H', ⟨by have := HJ3.out; have := HK2.out; omega⟩, ⟨by repeat (first | (with_reducible first | exact HB.out | apply below_alloc | apply pw_below_drewN | apply below_drew1 | refine below_set ?_ GE142.out) | exact HB.out)⟩⟩
                                · rw [if_neg c28] at H
                                  exact absurd H (by simp)
                              · rw [if_neg c26] at H
                                exact absurd H (by simp)
                            · rw [if_neg c25] at H
                              exact absurd H (by simp)
                          · replace c23 := Bool.eq_false_iff.mpr c23
                            subst c23
                            have H1 : (some false) = some r := by rw [if_neg (show ¬ (false = true) by decide)] at H; exact H
                            clear H
                            have H := H1
                            clear H1
                            obtain rfl := Option.some.inj H
                            have p141 : 0 ≤ (x7_2 : Int) := of_decide_eq_true (by first | (with_reducible assumption) | assumption)
                            have q141 : x7_2 < (l2.length : Int) := of_decide_eq_true (by first | (with_reducible assumption) | assumption)
                            obtain ⟨ad141, e141, hx141_0, hx141_1, hx141_2⟩ := at_T27 HR2.out x7_2 p141 q141
                            cases e141
                            replace hx141_0 := (HB.out.cell (World.block_lt_of_cell? w _ hx141_0)).trans hx141_0
                            replace hx141_1 := (HB.out.cell (World.block_lt_of_cell? w _ hx141_1)).trans hx141_1
                            replace hx141_2 := (HB.out.cell (World.block_lt_of_cell? w _ hx141_2)).trans hx141_2
                            replace p141 := eq_true p141
                            replace q141 := eq_true q141
                            go_wp2_with (first | ((with_reducible refine gate_dst (N := 8) rfl ?_); (try (refine gate_guard (by rfl) ?_; dsimp only)); refine box_event ?hg (N := 8) ?hd (cs := #[.int .i64 0, .int .i64 0, .string (⟨#[]⟩ : ByteArray)]) (t := 27) ?hr ?_; (case hd => rfl); (case hg => rfl); (case hr => first | (go_simp; done) | (go_simp; rfl)); intro gb142 hg w36 hbox hb; have n0_ := Aside0.mk (below_step (by repeat (first | (with_reducible first | exact HB.out | apply below_alloc | apply pw_below_drewN | apply below_drew1) | exact HB.out)) hb); have n1_ := Aside0.mk (hbox); have n2_ := Aside0.mk ((by rw [hg]; exact (below_size (by repeat (first | (with_reducible first | exact HB.out | apply below_alloc | apply pw_below_drewN | apply below_drew1) | exact HB.out))) : w.heap.size ≤ gb142)); have n3_ := Aside0.mk ((by rw [hg]; exact (below_size (by repeat (first | (with_reducible first | exact HB.out | apply below_alloc | apply pw_below_drewN | apply below_drew1) | exact HB.out))) : w.heap.size ≤ gb142)); clear HB; have HB := n0_; have BK142 := n1_; have GW142 := n2_; have GE142 := n3_; clear n0_ n1_ n2_ n3_; clear hb hbox hg; have hcz37_0 : w36.cell? ⟨gb142, 0, none⟩ = some (.int .i64 0) := (blk_cell BK142.out 0).trans rfl; have hcz37_1 : w36.cell? ⟨gb142, 1, none⟩ = some (.int .i64 0) := (blk_cell BK142.out 1).trans rfl; have hcz37_2 : w36.cell? ⟨gb142, 2, none⟩ = some (.string (⟨#[]⟩ : ByteArray)) := (blk_cell BK142.out 2).trans rfl; have hfz37_0 := blk_frozen BK142.out 0; have hfz37_1 := blk_frozen BK142.out 1; have hfz37_2 := blk_frozen BK142.out 2) | (go_at_call 33; (with_reducible refine (spec_tagAscii.calls k2 ((rd_T27 l2 x7_2).f2) false _ A22.out).mono ?_); rintro e w' ⟨rfl, ⟨nd, rfl⟩⟩))
                            go_ret
                            exact ⟨by first | rfl | (simp [errW_none, errW_some] <;> rfl) | (simp [*, errW_none, errW_some] <;> rfl), by repeat (first | (with_reducible first | exact HB.out | apply below_alloc | apply pw_below_drewN | apply below_drew1 | refine below_set ?_ GE142.out) | exact HB.out)⟩
                      · rw [if_neg c18] at H
                        have c18b0 : (((rd_T27 l2 x7_2).f0) == 1) = false := beq_eq_false_iff_ne.mpr c18
                        have c18b1 : (((rd_T27 l2 x7_2).f0) != 1) = true := bne_iff_ne.mpr c18
                        have c38b0 := eq_true (of_decide_eq_true (by first | (with_reducible assumption) | assumption) : 0 ≤ x7_2)
                        by_cases c39 : x7_2 ≤ (wrap64 (x7_2 + 1))
                        · rw [if_pos c39] at H
                          have c39b0 := eq_true c39
                          have c39b1 : decide (x7_2 ≤ (wrap64 (x7_2 + 1))) = true := decide_eq_true c39
                          by_cases c40 : (wrap64 (x7_2 + 1)) ≤ (l2.length : Int)
                          · rw [if_pos c40] at H
                            have c40b0 := eq_true c40
                            have c40b1 : decide ((wrap64 (x7_2 + 1)) ≤ (l2.length : Int)) = true := decide_eq_true c40
                            obtain ⟨y152, hy152⟩ : ∃ y_ : List (S27), y_ = ((l2.take ((wrap64 (x7_2 + 1)) : Int).toNat).drop (x7_2 : Int).toNat) := ⟨_, rfl⟩
                            replace H : ((spec_Tags.f k2 a0 x1_2 y152).bind fun t156 => (if 0 < (t156.length : Int) then (spec_TagsKnown.l0 k2 a0 ((rd_T32 t156 0).f2) l2 (wrap64 (x7_2 + 1))) else (none))) = some r := by first | (rw [hy152]; with_reducible exact H) | (have H2_ := (Option.bind_some _ _).symm.trans H; rw [hy152]; with_reducible exact H2_) | (have H2_ := (Option.bind_some _ _).symm.trans H; with_reducible exact H2_) | with_reducible exact H | (rw [hy152]; exact H) | exact H
                            have Ny152 := Aside0.mk hy152
                            clear hy152
                            replace H := Option.bind_eq_some_iff.mp H
                            obtain ⟨t156, A410, H⟩ := H
                            replace H : (if 0 < (t156.length : Int) then (spec_TagsKnown.l0 k2 a0 ((rd_T32 t156 0).f2) l2 (wrap64 (x7_2 + 1))) else (none)) = some r := H
                            have A41 := Aside0.mk A410
                            clear A410
                            by_cases c42 : 0 < (t156.length : Int)
                            · rw [if_pos c42] at H
                              have c42b0 : decide (0 < (t156.length : Int)) = true := decide_eq_true c42
                              have c42b1 : decide (0 < t156.length) = true := decide_eq_true (by omega)
                              clear c42
                              have H' := Aside0.mk H
                              clear H
                              have p141 : 0 ≤ (x7_2 : Int) := of_decide_eq_true (by first | (with_reducible assumption) | assumption)
                              have q141 : x7_2 < (l2.length : Int) := of_decide_eq_true (by first | (with_reducible assumption) | assumption)
                              obtain ⟨ad141, e141, hx141_0, hx141_1, hx141_2⟩ := at_T27 HR2.out x7_2 p141 q141
                              cases e141
                              replace hx141_0 := (HB.out.cell (World.block_lt_of_cell? w _ hx141_0)).trans hx141_0
                              replace hx141_1 := (HB.out.cell (World.block_lt_of_cell? w _ hx141_1)).trans hx141_1
                              replace hx141_2 := (HB.out.cell (World.block_lt_of_cell? w _ hx141_2)).trans hx141_2
                              replace p141 := eq_true p141
                              replace q141 := eq_true q141
                              go_wp2_with (first | ((with_reducible refine gate_dst (N := 8) rfl ?_); (try (refine gate_guard (by rfl) ?_; dsimp only)); refine box_event ?hg (N := 8) ?hd (cs := #[.int .i64 0, .int .i64 0, .string (⟨#[]⟩ : ByteArray)]) (t := 27) ?hr ?_; (case hd => rfl); (case hg => rfl); (case hr => first | (go_simp; done) | (go_simp; rfl)); intro gb142 hg w43 hbox hb; have n0_ := Aside0.mk (below_step (by repeat (first | (with_reducible first | exact HB.out | apply below_alloc | apply pw_below_drewN | apply below_drew1) | exact HB.out)) hb); have n1_ := Aside0.mk (hbox); have n2_ := Aside0.mk ((by rw [hg]; exact (below_size (by repeat (first | (with_reducible first | exact HB.out | apply below_alloc | apply pw_below_drewN | apply below_drew1) | exact HB.out))) : w.heap.size ≤ gb142)); have n3_ := Aside0.mk ((by rw [hg]; exact (below_size (by repeat (first | (with_reducible first | exact HB.out | apply below_alloc | apply pw_below_drewN | apply below_drew1) | exact HB.out))) : w.heap.size ≤ gb142)); clear HB; have HB := n0_; have BK142 := n1_; have GW142 := n2_; have GE142 := n3_; clear n0_ n1_ n2_ n3_; clear hb hbox hg; have hcz44_0 : w43.cell? ⟨gb142, 0, none⟩ = some (.int .i64 0) := (blk_cell BK142.out 0).trans rfl; have hcz44_1 : w43.cell? ⟨gb142, 1, none⟩ = some (.int .i64 0) := (blk_cell BK142.out 1).trans rfl; have hcz44_2 : w43.cell? ⟨gb142, 2, none⟩ = some (.string (⟨#[]⟩ : ByteArray)) := (blk_cell BK142.out 2).trans rfl; have hfz44_0 := blk_frozen BK142.out 0; have hfz44_1 := blk_frozen BK142.out 1; have hfz44_2 := blk_frozen BK142.out 2) | ((with_reducible refine gate_store (t := 27) (p := 8) rfl ?_); refine store_event (t := 27) (p := 8) (v := ?vo_w45) (w1 := (((w43.setCell ⟨gb142, 0, none⟩ (.int .i64 ((rd_T27 l2 x7_2).f0))).setCell ⟨gb142, 1, none⟩ (.int .i64 ((rd_T27 l2 x7_2).f1))).setCell ⟨gb142, 2, none⟩ (.string ((rd_T27 l2 x7_2).f2)))) ?hg ?ho ?hn ?hr ?_; (case ho => rfl); (case hg => rfl); (case hn => rfl); (case hr => first | (go_simp; done) | (go_simp; rfl)); intro w45 hw; have n0_ : Aside0 (w45.heap[gb142]? = some (.cells #[.int .i64 ((rd_T27 l2 x7_2).f0), .int .i64 ((rd_T27 l2 x7_2).f1), .string ((rd_T27 l2 x7_2).f2)] 27 (0, 0))) := ⟨(by rw [hw]; exact (by (with_reducible repeat (first | refine blk_drewN ?_ _ | refine blk_drew ?_ | refine blk_alloc ?_ _)); refine blk_put (cs := #[.int .i64 ((rd_T27 l2 x7_2).f0), .int .i64 ((rd_T27 l2 x7_2).f1), .string (⟨#[]⟩ : ByteArray)]) ?_ 2 _ rfl; (with_reducible repeat (first | refine blk_drewN ?_ _ | refine blk_drew ?_ | refine blk_alloc ?_ _)); refine blk_put (cs := #[.int .i64 ((rd_T27 l2 x7_2).f0), .int .i64 0, .string (⟨#[]⟩ : ByteArray)]) ?_ 1 _ rfl; (with_reducible repeat (first | refine blk_drewN ?_ _ | refine blk_drew ?_ | refine blk_alloc ?_ _)); refine blk_put (cs := #[.int .i64 0, .int .i64 0, .string (⟨#[]⟩ : ByteArray)]) ?_ 0 _ rfl; (with_reducible repeat (first | refine blk_drewN ?_ _ | refine blk_drew ?_ | refine blk_alloc ?_ _)); exact BK142.out))⟩; have n1_ : Aside0 (Below w.heap.size w w45) := ⟨(by rw [hw]; exact (by repeat (first | (with_reducible first | exact HB.out | apply below_alloc | apply pw_below_drewN | apply below_drew1 | refine below_set ?_ GE142.out) | exact HB.out)))⟩; clear hw; clear BK142; clear HB; have BK142 := n0_; have HB := n1_; clear n0_ n1_; have hcz46_0 : w45.cell? ⟨gb142, 0, none⟩ = some (.int .i64 ((rd_T27 l2 x7_2).f0)) := (blk_cell BK142.out 0).trans rfl; have hcz46_1 : w45.cell? ⟨gb142, 1, none⟩ = some (.int .i64 ((rd_T27 l2 x7_2).f1)) := (blk_cell BK142.out 1).trans rfl; have hcz46_2 : w45.cell? ⟨gb142, 2, none⟩ = some (.string ((rd_T27 l2 x7_2).f2)) := (blk_cell BK142.out 2).trans rfl; have hfz46_0 := blk_frozen BK142.out 0; have hfz46_1 := blk_frozen BK142.out 1; have hfz46_2 := blk_frozen BK142.out 2; have q47 : ((wrap64 (x7_2 + 1)) : Int) ≤ ((l2.length : Int) : Int) := of_decide_eq_true (by first | (with_reducible assumption) | assumption); obtain ⟨i047, hi047, _, hsz47, _⟩ := info_parts info27; have hroom47 : l2.length ≤ c2 := HC2.out; have hC47 : Kd.C k27 _ (some ad141) l2.length l2 := HR2.out; have ql47 : (x7_2 : Int) ≤ ((wrap64 (x7_2 + 1)) : Int) := of_decide_eq_true (by first | (with_reducible assumption) | assumption); have q047 : (0 : Int) ≤ (x7_2 : Int) := of_decide_eq_true (by first | (with_reducible assumption) | assumption); have hcut47 := cut_mid (P := Tryd.prog) 28 27 .i64 .i64 Tryd.underlying28 hi047 3 hsz47 (some ad141) l2.length c2 x7_2 (wrap64 (x7_2 + 1)) q047 ql47 q47 hroom47; have hr47 := Kd.C_mid (lo := (x7_2 : Int).toNat) (hi := ((wrap64 (x7_2 + 1)) : Int).toNat) (c := c2) hC47 (by omega) (by omega) hroom47; obtain ⟨A47, hA47⟩ : ∃ A1, A1 = (if c2 = (x7_2 : Int).toNat then (some ad141) else ((some ad141) : Option Addr).map (·.add ((x7_2 : Int).toNat * 3))) := ⟨_, rfl⟩; obtain ⟨c47, hc47⟩ : ∃ c1, c1 = c2 - (x7_2 : Int).toNat := ⟨_, rfl⟩; have hy47 : y152.length = ((wrap64 (x7_2 + 1)) : Int).toNat - (x7_2 : Int).toNat := (by rw [Ny152.out, List.length_drop, List.length_take] <;> omega); rw [show ((l2).take ((wrap64 (x7_2 + 1)) : Int).toNat).drop (x7_2 : Int).toNat = y152 from Ny152.out.symm] at hr47; replace hr47 : Kd.C k27 _ A47 y152.length y152 := (by rw [hA47]; exact hr47); rw [← hy47, ← hA47, ← hc47] at hcut47; have HR155 := Aside0.mk hr47; have HC155 := Aside0.mk (show y152.length ≤ c47 from by rw [hy47, hc47]; exact Nat.sub_le_sub_right (Nat.le_trans (by omega) hroom47) _); clear hr47 hC47 hroom47 hi047 hsz47 hc47; have KY47 := Aside0.mk hy47; have KA47 := Aside0.mk hA47; clear hy47 hA47; replace q47 := eq_true q47) | ((with_reducible refine gate_callee (f := 22) rfl ?_); refine goesL_ (some 76) rfl rfl Tryd.func22 (by kernel_rfl) rfl #[.string a0, .int .i64 x1_2, .slice A47 y152.length c47] rfl (by (try simp only [List.map_toArray, List.map_cons, List.map_nil]); first | done | rfl | (simp only [List.length_drop, List.length_take]; rfl)) ?_; (with_reducible refine (spec_Tags.calls k2 a0 x1_2 _ _ y152 t156 _ ?side1 ?side2 A41.out).mono ?_); (case side1 => repeat (first | exact (Kd.C_below HR155.out HB.out) | (with_reducible refine Kd.C_alloc ?_ _) | (with_reducible refine Kd.C_drewN ?_ _) | (with_reducible refine Kd.C_drew ?_))); (case side2 => exact HC155.out); rintro e w48 ⟨v157, rfl, ho0, hb⟩; refine ⟨_, rfl, ?_⟩; have n0_ := Aside0.mk (Kd.R_lower ho0 (below_size (by repeat (first | (with_reducible first | exact HB.out | apply below_alloc | apply pw_below_drewN | apply below_drew1 | refine below_set ?_ GE142.out) | exact HB.out)))); have n1_ := Aside0.mk (blk_below (g := gb142) (o := .cells #[.int .i64 ((rd_T27 l2 x7_2).f0), .int .i64 ((rd_T27 l2 x7_2).f1), .string ((rd_T27 l2 x7_2).f2)] 27 (0, 0)) (by (with_reducible repeat (first | refine blk_drewN ?_ _ | refine blk_drew ?_ | refine blk_alloc ?_ _)); exact BK142.out) hb); have n2_ := Aside0.mk (below_step (by repeat (first | (with_reducible first | exact HB.out | apply below_alloc | apply pw_below_drewN | apply below_drew1 | refine below_set ?_ GE142.out) | exact HB.out)) hb); clear BK142; clear HB; have HO158 := n0_; have BK142 := n1_; have HB := n2_; clear n0_ n1_ n2_; (try clear hb); (try clear hb2); (try clear hk); (try clear hi); (try clear ho0); obtain ⟨Ao49, co49, eo49⟩ := Kd.R_slice HO158.out; subst eo49; have p159 : 0 ≤ (0 : Int) := (by omega); have q159 : 0 < (t156.length : Int) := of_decide_eq_true (by first | (with_reducible assumption) | assumption); obtain ⟨ad159, e159, hx159_0, hx159_1, hx159_2, hx159_3, hx159_4, hx159_5⟩ := at_T32 (Kd.R_reads' HO158.out).2.2 0 p159 q159; cases e159; have qi159 : (0 < t156.length) = True := eq_true (by omega); (try rw [show ((0 : Int)).toNat = 0 from rfl] at hx159_0); (try rw [show 0 * 6 = 0 from rfl] at hx159_0); (try rw [Addr.add_zero'] at hx159_0); (try rw [show ((0 : Int)).toNat = 0 from rfl] at hx159_1); (try rw [show 0 * 6 = 0 from rfl] at hx159_1); (try rw [Addr.add_zero'] at hx159_1); (try rw [show ((0 : Int)).toNat = 0 from rfl] at hx159_2); (try rw [show 0 * 6 = 0 from rfl] at hx159_2); (try rw [Addr.add_zero'] at hx159_2); (try rw [show ((0 : Int)).toNat = 0 from rfl] at hx159_3); (try rw [show 0 * 6 = 0 from rfl] at hx159_3); (try rw [Addr.add_zero'] at hx159_3); (try rw [show ((0 : Int)).toNat = 0 from rfl] at hx159_4); (try rw [show 0 * 6 = 0 from rfl] at hx159_4); (try rw [Addr.add_zero'] at hx159_4); (try rw [show ((0 : Int)).toNat = 0 from rfl] at hx159_5); (try rw [show 0 * 6 = 0 from rfl] at hx159_5); (try rw [Addr.add_zero'] at hx159_5); replace p159 := eq_true p159; replace q159 := eq_true q159))
                              go_roundg k2
                              case measure => have := HJ3.out; have := HK2.out; omega
                              case rel => exact ⟨((rd_T32 t156 0).f2), (wrap64 (x7_2 + 1)), (by first | rfl | (simp; done) | (simp [*]; done)), (by first | rfl | (simp; done) | (simp [*]; done)), H', ⟨by have := HJ3.out; have := HK2.out; omega⟩, ⟨by repeat (first | (with_reducible first | exact HB.out | apply below_alloc | apply pw_below_drewN | apply below_drew1 | refine below_set ?_ GE142.out) | exact HB.out)⟩⟩
                            · rw [if_neg c42] at H
                              exact absurd H (by simp)
                          · rw [if_neg c40] at H
                            exact absurd H (by simp)
                        · rw [if_neg c39] at H
                          exact absurd H (by simp)
                · rw [if_neg c11] at H
                  have c11b0 : (((rd_T27 l2 x7_2).f0) == 0) = false := beq_eq_false_iff_ne.mpr c11
                  have c11b1 : (((rd_T27 l2 x7_2).f0) != 0) = true := bne_iff_ne.mpr c11
                  by_cases c50 : ((rd_T27 l2 x7_2).f0) = 1
                  · rw [if_pos c50] at H
                    have c50b0 : (((rd_T27 l2 x7_2).f0) == 1) = true := beq_iff_eq.mpr c50
                    have c50b1 : (((rd_T27 l2 x7_2).f0) != 1) = false := bne_eq_false_iff_eq.mpr c50
                    clear c50
                    by_cases c51 : ((rd_T27 l2 x7_2).f1) < x1_2
                    · rw [if_pos c51] at H
                      have c51b0 : decide (((rd_T27 l2 x7_2).f1) < x1_2) = true := decide_eq_true c51
                      clear c51
                      obtain rfl := Option.some.inj H
                      have p141 : 0 ≤ (x7_2 : Int) := of_decide_eq_true (by first | (with_reducible assumption) | assumption)
                      have q141 : x7_2 < (l2.length : Int) := of_decide_eq_true (by first | (with_reducible assumption) | assumption)
                      obtain ⟨ad141, e141, hx141_0, hx141_1, hx141_2⟩ := at_T27 HR2.out x7_2 p141 q141
                      cases e141
                      replace hx141_0 := (HB.out.cell (World.block_lt_of_cell? w _ hx141_0)).trans hx141_0
                      replace hx141_1 := (HB.out.cell (World.block_lt_of_cell? w _ hx141_1)).trans hx141_1
                      replace hx141_2 := (HB.out.cell (World.block_lt_of_cell? w _ hx141_2)).trans hx141_2
                      replace p141 := eq_true p141
                      replace q141 := eq_true q141
                      go_wp2_with (first | ((with_reducible refine gate_dst (N := 8) rfl ?_); (try (refine gate_guard (by rfl) ?_; dsimp only)); refine box_event ?hg (N := 8) ?hd (cs := #[.int .i64 0, .int .i64 0, .string (⟨#[]⟩ : ByteArray)]) (t := 27) ?hr ?_; (case hd => rfl); (case hg => rfl); (case hr => first | (go_simp; done) | (go_simp; rfl)); intro gb142 hg w52 hbox hb; have n0_ := Aside0.mk (below_step (by repeat (first | (with_reducible first | exact HB.out | apply below_alloc | apply pw_below_drewN | apply below_drew1) | exact HB.out)) hb); have n1_ := Aside0.mk (hbox); have n2_ := Aside0.mk ((by rw [hg]; exact (below_size (by repeat (first | (with_reducible first | exact HB.out | apply below_alloc | apply pw_below_drewN | apply below_drew1) | exact HB.out))) : w.heap.size ≤ gb142)); have n3_ := Aside0.mk ((by rw [hg]; exact (below_size (by repeat (first | (with_reducible first | exact HB.out | apply below_alloc | apply pw_below_drewN | apply below_drew1) | exact HB.out))) : w.heap.size ≤ gb142)); clear HB; have HB := n0_; have BK142 := n1_; have GW142 := n2_; have GE142 := n3_; clear n0_ n1_ n2_ n3_; clear hb hbox hg; have hcz53_0 : w52.cell? ⟨gb142, 0, none⟩ = some (.int .i64 0) := (blk_cell BK142.out 0).trans rfl; have hcz53_1 : w52.cell? ⟨gb142, 1, none⟩ = some (.int .i64 0) := (blk_cell BK142.out 1).trans rfl; have hcz53_2 : w52.cell? ⟨gb142, 2, none⟩ = some (.string (⟨#[]⟩ : ByteArray)) := (blk_cell BK142.out 2).trans rfl; have hfz53_0 := blk_frozen BK142.out 0; have hfz53_1 := blk_frozen BK142.out 1; have hfz53_2 := blk_frozen BK142.out 2))
                      go_ret
                      exact ⟨by first | rfl | (simp [errW_none, errW_some] <;> rfl) | (simp [*, errW_none, errW_some] <;> rfl), by repeat (first | (with_reducible first | exact HB.out | apply below_alloc | apply pw_below_drewN | apply below_drew1 | refine below_set ?_ GE142.out) | exact HB.out)⟩
                    · rw [if_neg c51] at H
                      have c51b0 : decide (((rd_T27 l2 x7_2).f1) < x1_2) = false := decide_eq_false c51
                      clear c51
                      by_cases c54 : ((rd_T27 l2 x7_2).f1) > (a0.size : Int)
                      · rw [if_pos c54] at H
                        have c54b0 : decide ((a0.size : Int) < ((rd_T27 l2 x7_2).f1)) = true := decide_eq_true c54
                        clear c54
                        obtain rfl := Option.some.inj H
                        have p141 : 0 ≤ (x7_2 : Int) := of_decide_eq_true (by first | (with_reducible assumption) | assumption)
                        have q141 : x7_2 < (l2.length : Int) := of_decide_eq_true (by first | (with_reducible assumption) | assumption)
                        obtain ⟨ad141, e141, hx141_0, hx141_1, hx141_2⟩ := at_T27 HR2.out x7_2 p141 q141
                        cases e141
                        replace hx141_0 := (HB.out.cell (World.block_lt_of_cell? w _ hx141_0)).trans hx141_0
                        replace hx141_1 := (HB.out.cell (World.block_lt_of_cell? w _ hx141_1)).trans hx141_1
                        replace hx141_2 := (HB.out.cell (World.block_lt_of_cell? w _ hx141_2)).trans hx141_2
                        replace p141 := eq_true p141
                        replace q141 := eq_true q141
                        go_wp2_with (first | ((with_reducible refine gate_dst (N := 8) rfl ?_); (try (refine gate_guard (by rfl) ?_; dsimp only)); refine box_event ?hg (N := 8) ?hd (cs := #[.int .i64 0, .int .i64 0, .string (⟨#[]⟩ : ByteArray)]) (t := 27) ?hr ?_; (case hd => rfl); (case hg => rfl); (case hr => first | (go_simp; done) | (go_simp; rfl)); intro gb142 hg w55 hbox hb; have n0_ := Aside0.mk (below_step (by repeat (first | (with_reducible first | exact HB.out | apply below_alloc | apply pw_below_drewN | apply below_drew1) | exact HB.out)) hb); have n1_ := Aside0.mk (hbox); have n2_ := Aside0.mk ((by rw [hg]; exact (below_size (by repeat (first | (with_reducible first | exact HB.out | apply below_alloc | apply pw_below_drewN | apply below_drew1) | exact HB.out))) : w.heap.size ≤ gb142)); have n3_ := Aside0.mk ((by rw [hg]; exact (below_size (by repeat (first | (with_reducible first | exact HB.out | apply below_alloc | apply pw_below_drewN | apply below_drew1) | exact HB.out))) : w.heap.size ≤ gb142)); clear HB; have HB := n0_; have BK142 := n1_; have GW142 := n2_; have GE142 := n3_; clear n0_ n1_ n2_ n3_; clear hb hbox hg; have hcz56_0 : w55.cell? ⟨gb142, 0, none⟩ = some (.int .i64 0) := (blk_cell BK142.out 0).trans rfl; have hcz56_1 : w55.cell? ⟨gb142, 1, none⟩ = some (.int .i64 0) := (blk_cell BK142.out 1).trans rfl; have hcz56_2 : w55.cell? ⟨gb142, 2, none⟩ = some (.string (⟨#[]⟩ : ByteArray)) := (blk_cell BK142.out 2).trans rfl; have hfz56_0 := blk_frozen BK142.out 0; have hfz56_1 := blk_frozen BK142.out 1; have hfz56_2 := blk_frozen BK142.out 2))
                        go_ret
                        exact ⟨by first | rfl | (simp [errW_none, errW_some] <;> rfl) | (simp [*, errW_none, errW_some] <;> rfl), by repeat (first | (with_reducible first | exact HB.out | apply below_alloc | apply pw_below_drewN | apply below_drew1 | refine below_set ?_ GE142.out) | exact HB.out)⟩
                      · rw [if_neg c54] at H
                        have c54b0 : decide ((a0.size : Int) < ((rd_T27 l2 x7_2).f1)) = false := decide_eq_false c54
                        clear c54
                        by_cases c57 : ((rd_T27 l2 x7_2).f2).toList = ([] : List UInt8)
                        · rw [if_pos c57] at H
                          have c57b0 : (((rd_T27 l2 x7_2).f2).toList == ([] : List UInt8)) = true := beq_iff_eq.mpr c57
                          have c57b1 : (((rd_T27 l2 x7_2).f2).toList != ([] : List UInt8)) = false := bne_eq_false_iff_eq.mpr c57
                          clear c57
                          obtain rfl := Option.some.inj H
                          have p141 : 0 ≤ (x7_2 : Int) := of_decide_eq_true (by first | (with_reducible assumption) | assumption)
                          have q141 : x7_2 < (l2.length : Int) := of_decide_eq_true (by first | (with_reducible assumption) | assumption)
                          obtain ⟨ad141, e141, hx141_0, hx141_1, hx141_2⟩ := at_T27 HR2.out x7_2 p141 q141
                          cases e141
                          replace hx141_0 := (HB.out.cell (World.block_lt_of_cell? w _ hx141_0)).trans hx141_0
                          replace hx141_1 := (HB.out.cell (World.block_lt_of_cell? w _ hx141_1)).trans hx141_1
                          replace hx141_2 := (HB.out.cell (World.block_lt_of_cell? w _ hx141_2)).trans hx141_2
                          replace p141 := eq_true p141
                          replace q141 := eq_true q141
                          go_wp2_with (first | ((with_reducible refine gate_dst (N := 8) rfl ?_); (try (refine gate_guard (by rfl) ?_; dsimp only)); refine box_event ?hg (N := 8) ?hd (cs := #[.int .i64 0, .int .i64 0, .string (⟨#[]⟩ : ByteArray)]) (t := 27) ?hr ?_; (case hd => rfl); (case hg => rfl); (case hr => first | (go_simp; done) | (go_simp; rfl)); intro gb142 hg w58 hbox hb; have n0_ := Aside0.mk (below_step (by repeat (first | (with_reducible first | exact HB.out | apply below_alloc | apply pw_below_drewN | apply below_drew1) | exact HB.out)) hb); have n1_ := Aside0.mk (hbox); have n2_ := Aside0.mk ((by rw [hg]; exact (below_size (by repeat (first | (with_reducible first | exact HB.out | apply below_alloc | apply pw_below_drewN | apply below_drew1) | exact HB.out))) : w.heap.size ≤ gb142)); have n3_ := Aside0.mk ((by rw [hg]; exact (below_size (by repeat (first | (with_reducible first | exact HB.out | apply below_alloc | apply pw_below_drewN | apply below_drew1) | exact HB.out))) : w.heap.size ≤ gb142)); clear HB; have HB := n0_; have BK142 := n1_; have GW142 := n2_; have GE142 := n3_; clear n0_ n1_ n2_ n3_; clear hb hbox hg; have hcz59_0 : w58.cell? ⟨gb142, 0, none⟩ = some (.int .i64 0) := (blk_cell BK142.out 0).trans rfl; have hcz59_1 : w58.cell? ⟨gb142, 1, none⟩ = some (.int .i64 0) := (blk_cell BK142.out 1).trans rfl; have hcz59_2 : w58.cell? ⟨gb142, 2, none⟩ = some (.string (⟨#[]⟩ : ByteArray)) := (blk_cell BK142.out 2).trans rfl; have hfz59_0 := blk_frozen BK142.out 0; have hfz59_1 := blk_frozen BK142.out 1; have hfz59_2 := blk_frozen BK142.out 2))
                          go_ret
                          exact ⟨by first | rfl | (simp [errW_none, errW_some] <;> rfl) | (simp [*, errW_none, errW_some] <;> rfl), by repeat (first | (with_reducible first | exact HB.out | apply below_alloc | apply pw_below_drewN | apply below_drew1 | refine below_set ?_ GE142.out) | exact HB.out)⟩
                        · rw [if_neg c57] at H
                          have c57b0 : (((rd_T27 l2 x7_2).f2).toList == ([] : List UInt8)) = false := beq_eq_false_iff_ne.mpr c57
                          have c57b1 : (((rd_T27 l2 x7_2).f2).toList != ([] : List UInt8)) = true := bne_iff_ne.mpr c57
                          replace H := Option.bind_eq_some_iff.mp H
                          obtain ⟨t160, A600, H⟩ := H
                          replace H : (if t160 = true then (if x7_2 ≤ (wrap64 (x7_2 + 1)) then (if (wrap64 (x7_2 + 1)) ≤ (l2.length : Int) then ((spec_Tags.f k2 a0 x1_2 ((l2.take ((wrap64 (x7_2 + 1)) : Int).toNat).drop (x7_2 : Int).toNat)).bind fun t165 => (if 0 < (t165.length : Int) then (spec_TagsKnown.l0 k2 a0 ((rd_T32 t165 0).f2) l2 (wrap64 (x7_2 + 1))) else (none))) else (none)) else (none)) else (some false)) = some r := H
                          have A60 := Aside0.mk A600
                          clear A600
                          by_cases c61 : t160 = true
                          · subst c61
                            have H1 : (if x7_2 ≤ (wrap64 (x7_2 + 1)) then (if (wrap64 (x7_2 + 1)) ≤ (l2.length : Int) then ((spec_Tags.f k2 a0 x1_2 ((l2.take ((wrap64 (x7_2 + 1)) : Int).toNat).drop (x7_2 : Int).toNat)).bind fun t165 => (if 0 < (t165.length : Int) then (spec_TagsKnown.l0 k2 a0 ((rd_T32 t165 0).f2) l2 (wrap64 (x7_2 + 1))) else (none))) else (none)) else (none)) = some r := by rw [if_pos rfl] at H; exact H
                            clear H
                            have H := H1
                            clear H1
                            have c62b0 := eq_true (of_decide_eq_true (by first | (with_reducible assumption) | assumption) : 0 ≤ x7_2)
                            by_cases c63 : x7_2 ≤ (wrap64 (x7_2 + 1))
                            · rw [if_pos c63] at H
                              have c63b0 := eq_true c63
                              have c63b1 : decide (x7_2 ≤ (wrap64 (x7_2 + 1))) = true := decide_eq_true c63
                              by_cases c64 : (wrap64 (x7_2 + 1)) ≤ (l2.length : Int)
                              · rw [if_pos c64] at H
                                have c64b0 := eq_true c64
                                have c64b1 : decide ((wrap64 (x7_2 + 1)) ≤ (l2.length : Int)) = true := decide_eq_true c64
                                obtain ⟨y161, hy161⟩ : ∃ y_ : List (S27), y_ = ((l2.take ((wrap64 (x7_2 + 1)) : Int).toNat).drop (x7_2 : Int).toNat) := ⟨_, rfl⟩
                                replace H : ((spec_Tags.f k2 a0 x1_2 y161).bind fun t165 => (if 0 < (t165.length : Int) then (spec_TagsKnown.l0 k2 a0 ((rd_T32 t165 0).f2) l2 (wrap64 (x7_2 + 1))) else (none))) = some r := by first | (rw [hy161]; with_reducible exact H) | (have H2_ := (Option.bind_some _ _).symm.trans H; rw [hy161]; with_reducible exact H2_) | (have H2_ := (Option.bind_some _ _).symm.trans H; with_reducible exact H2_) | with_reducible exact H | (rw [hy161]; exact H) | exact H
                                have Ny161 := Aside0.mk hy161
                                clear hy161
                                replace H := Option.bind_eq_some_iff.mp H
                                obtain ⟨t165, A650, H⟩ := H
                                replace H : (if 0 < (t165.length : Int) then (spec_TagsKnown.l0 k2 a0 ((rd_T32 t165 0).f2) l2 (wrap64 (x7_2 + 1))) else (none)) = some r := H
                                have A65 := Aside0.mk A650
                                clear A650
                                by_cases c66 : 0 < (t165.length : Int)
                                · rw [if_pos c66] at H
                                  have c66b0 : decide (0 < (t165.length : Int)) = true := decide_eq_true c66
                                  have c66b1 : decide (0 < t165.length) = true := decide_eq_true (by omega)
                                  clear c66
                                  have H' := Aside0.mk H
                                  clear H
                                  have p141 : 0 ≤ (x7_2 : Int) := of_decide_eq_true (by first | (with_reducible assumption) | assumption)
                                  have q141 : x7_2 < (l2.length : Int) := of_decide_eq_true (by first | (with_reducible assumption) | assumption)
                                  obtain ⟨ad141, e141, hx141_0, hx141_1, hx141_2⟩ := at_T27 HR2.out x7_2 p141 q141
                                  cases e141
                                  replace hx141_0 := (HB.out.cell (World.block_lt_of_cell? w _ hx141_0)).trans hx141_0
                                  replace hx141_1 := (HB.out.cell (World.block_lt_of_cell? w _ hx141_1)).trans hx141_1
                                  replace hx141_2 := (HB.out.cell (World.block_lt_of_cell? w _ hx141_2)).trans hx141_2
                                  replace p141 := eq_true p141
                                  replace q141 := eq_true q141
                                  go_wp2_with (first | ((with_reducible refine gate_dst (N := 8) rfl ?_); (try (refine gate_guard (by rfl) ?_; dsimp only)); refine box_event ?hg (N := 8) ?hd (cs := #[.int .i64 0, .int .i64 0, .string (⟨#[]⟩ : ByteArray)]) (t := 27) ?hr ?_; (case hd => rfl); (case hg => rfl); (case hr => first | (go_simp; done) | (go_simp; rfl)); intro gb142 hg w67 hbox hb; have n0_ := Aside0.mk (below_step (by repeat (first | (with_reducible first | exact HB.out | apply below_alloc | apply pw_below_drewN | apply below_drew1) | exact HB.out)) hb); have n1_ := Aside0.mk (hbox); have n2_ := Aside0.mk ((by rw [hg]; exact (below_size (by repeat (first | (with_reducible first | exact HB.out | apply below_alloc | apply pw_below_drewN | apply below_drew1) | exact HB.out))) : w.heap.size ≤ gb142)); have n3_ := Aside0.mk ((by rw [hg]; exact (below_size (by repeat (first | (with_reducible first | exact HB.out | apply below_alloc | apply pw_below_drewN | apply below_drew1) | exact HB.out))) : w.heap.size ≤ gb142)); clear HB; have HB := n0_; have BK142 := n1_; have GW142 := n2_; have GE142 := n3_; clear n0_ n1_ n2_ n3_; clear hb hbox hg; have hcz68_0 : w67.cell? ⟨gb142, 0, none⟩ = some (.int .i64 0) := (blk_cell BK142.out 0).trans rfl; have hcz68_1 : w67.cell? ⟨gb142, 1, none⟩ = some (.int .i64 0) := (blk_cell BK142.out 1).trans rfl; have hcz68_2 : w67.cell? ⟨gb142, 2, none⟩ = some (.string (⟨#[]⟩ : ByteArray)) := (blk_cell BK142.out 2).trans rfl; have hfz68_0 := blk_frozen BK142.out 0; have hfz68_1 := blk_frozen BK142.out 1; have hfz68_2 := blk_frozen BK142.out 2) | ((with_reducible refine gate_store (t := 27) (p := 8) rfl ?_); refine store_event (t := 27) (p := 8) (v := ?vo_w69) (w1 := (((w67.setCell ⟨gb142, 0, none⟩ (.int .i64 ((rd_T27 l2 x7_2).f0))).setCell ⟨gb142, 1, none⟩ (.int .i64 ((rd_T27 l2 x7_2).f1))).setCell ⟨gb142, 2, none⟩ (.string ((rd_T27 l2 x7_2).f2)))) ?hg ?ho ?hn ?hr ?_; (case ho => rfl); (case hg => rfl); (case hn => rfl); (case hr => first | (go_simp; done) | (go_simp; rfl)); intro w69 hw; have n0_ : Aside0 (w69.heap[gb142]? = some (.cells #[.int .i64 ((rd_T27 l2 x7_2).f0), .int .i64 ((rd_T27 l2 x7_2).f1), .string ((rd_T27 l2 x7_2).f2)] 27 (0, 0))) := ⟨(by rw [hw]; exact (by (with_reducible repeat (first | refine blk_drewN ?_ _ | refine blk_drew ?_ | refine blk_alloc ?_ _)); refine blk_put (cs := #[.int .i64 ((rd_T27 l2 x7_2).f0), .int .i64 ((rd_T27 l2 x7_2).f1), .string (⟨#[]⟩ : ByteArray)]) ?_ 2 _ rfl; (with_reducible repeat (first | refine blk_drewN ?_ _ | refine blk_drew ?_ | refine blk_alloc ?_ _)); refine blk_put (cs := #[.int .i64 ((rd_T27 l2 x7_2).f0), .int .i64 0, .string (⟨#[]⟩ : ByteArray)]) ?_ 1 _ rfl; (with_reducible repeat (first | refine blk_drewN ?_ _ | refine blk_drew ?_ | refine blk_alloc ?_ _)); refine blk_put (cs := #[.int .i64 0, .int .i64 0, .string (⟨#[]⟩ : ByteArray)]) ?_ 0 _ rfl; (with_reducible repeat (first | refine blk_drewN ?_ _ | refine blk_drew ?_ | refine blk_alloc ?_ _)); exact BK142.out))⟩; have n1_ : Aside0 (Below w.heap.size w w69) := ⟨(by rw [hw]; exact (by repeat (first | (with_reducible first | exact HB.out | apply below_alloc | apply pw_below_drewN | apply below_drew1 | refine below_set ?_ GE142.out) | exact HB.out)))⟩; clear hw; clear BK142; clear HB; have BK142 := n0_; have HB := n1_; clear n0_ n1_; have hcz70_0 : w69.cell? ⟨gb142, 0, none⟩ = some (.int .i64 ((rd_T27 l2 x7_2).f0)) := (blk_cell BK142.out 0).trans rfl; have hcz70_1 : w69.cell? ⟨gb142, 1, none⟩ = some (.int .i64 ((rd_T27 l2 x7_2).f1)) := (blk_cell BK142.out 1).trans rfl; have hcz70_2 : w69.cell? ⟨gb142, 2, none⟩ = some (.string ((rd_T27 l2 x7_2).f2)) := (blk_cell BK142.out 2).trans rfl; have hfz70_0 := blk_frozen BK142.out 0; have hfz70_1 := blk_frozen BK142.out 1; have hfz70_2 := blk_frozen BK142.out 2) | (go_at_call 33; (with_reducible refine (spec_tagAscii.calls k2 ((rd_T27 l2 x7_2).f2) true _ A60.out).mono ?_); rintro e w' ⟨rfl, ⟨nd, rfl⟩⟩; have q71 : ((wrap64 (x7_2 + 1)) : Int) ≤ ((l2.length : Int) : Int) := of_decide_eq_true (by first | (with_reducible assumption) | assumption); obtain ⟨i071, hi071, _, hsz71, _⟩ := info_parts info27; have hroom71 : l2.length ≤ c2 := HC2.out; have hC71 : Kd.C k27 _ (some ad141) l2.length l2 := HR2.out; have ql71 : (x7_2 : Int) ≤ ((wrap64 (x7_2 + 1)) : Int) := of_decide_eq_true (by first | (with_reducible assumption) | assumption); have q071 : (0 : Int) ≤ (x7_2 : Int) := of_decide_eq_true (by first | (with_reducible assumption) | assumption); have hcut71 := cut_mid (P := Tryd.prog) 28 27 .i64 .i64 Tryd.underlying28 hi071 3 hsz71 (some ad141) l2.length c2 x7_2 (wrap64 (x7_2 + 1)) q071 ql71 q71 hroom71; have hr71 := Kd.C_mid (lo := (x7_2 : Int).toNat) (hi := ((wrap64 (x7_2 + 1)) : Int).toNat) (c := c2) hC71 (by omega) (by omega) hroom71; obtain ⟨A71, hA71⟩ : ∃ A1, A1 = (if c2 = (x7_2 : Int).toNat then (some ad141) else ((some ad141) : Option Addr).map (·.add ((x7_2 : Int).toNat * 3))) := ⟨_, rfl⟩; obtain ⟨c71, hc71⟩ : ∃ c1, c1 = c2 - (x7_2 : Int).toNat := ⟨_, rfl⟩; have hy71 : y161.length = ((wrap64 (x7_2 + 1)) : Int).toNat - (x7_2 : Int).toNat := (by rw [Ny161.out, List.length_drop, List.length_take] <;> omega); rw [show ((l2).take ((wrap64 (x7_2 + 1)) : Int).toNat).drop (x7_2 : Int).toNat = y161 from Ny161.out.symm] at hr71; replace hr71 : Kd.C k27 _ A71 y161.length y161 := (by rw [hA71]; exact hr71); rw [← hy71, ← hA71, ← hc71] at hcut71; have HR164 := Aside0.mk hr71; have HC164 := Aside0.mk (show y161.length ≤ c71 from by rw [hy71, hc71]; exact Nat.sub_le_sub_right (Nat.le_trans (by omega) hroom71) _); clear hr71 hC71 hroom71 hi071 hsz71 hc71; have KY71 := Aside0.mk hy71; have KA71 := Aside0.mk hA71; clear hy71 hA71; replace q71 := eq_true q71) | ((with_reducible refine gate_callee (f := 22) rfl ?_); refine goesL_ (some 76) rfl rfl Tryd.func22 (by kernel_rfl) rfl #[.string a0, .int .i64 x1_2, .slice A71 y161.length c71] rfl (by (try simp only [List.map_toArray, List.map_cons, List.map_nil]); first | done | rfl | (simp only [List.length_drop, List.length_take]; rfl)) ?_; (with_reducible refine (spec_Tags.calls k2 a0 x1_2 _ _ y161 t165 _ ?side1 ?side2 A65.out).mono ?_); (case side1 => repeat (first | exact (Kd.C_below HR164.out (by repeat (first | (with_reducible first | exact HB.out | apply below_alloc | apply pw_below_drewN | apply below_drew1 | refine below_set ?_ GE142.out) | exact HB.out))) | (with_reducible refine Kd.C_alloc ?_ _) | (with_reducible refine Kd.C_drewN ?_ _) | (with_reducible refine Kd.C_drew ?_))); (case side2 => exact HC164.out); rintro e w72 ⟨v166, rfl, ho0, hb⟩; refine ⟨_, rfl, ?_⟩; have n0_ := Aside0.mk (Kd.R_lower ho0 (below_size (by repeat (first | (with_reducible first | exact HB.out | apply below_alloc | apply pw_below_drewN | apply below_drew1 | refine below_set ?_ GE142.out) | exact HB.out)))); have n1_ := Aside0.mk (blk_below (g := gb142) (o := .cells #[.int .i64 ((rd_T27 l2 x7_2).f0), .int .i64 ((rd_T27 l2 x7_2).f1), .string ((rd_T27 l2 x7_2).f2)] 27 (0, 0)) (by (with_reducible repeat (first | refine blk_drewN ?_ _ | refine blk_drew ?_ | refine blk_alloc ?_ _)); exact BK142.out) hb); have n2_ := Aside0.mk (below_step (by repeat (first | (with_reducible first | exact HB.out | apply below_alloc | apply pw_below_drewN | apply below_drew1 | refine below_set ?_ GE142.out) | exact HB.out)) hb); clear BK142; clear HB; have HO167 := n0_; have BK142 := n1_; have HB := n2_; clear n0_ n1_ n2_; (try clear hb); (try clear hb2); (try clear hk); (try clear hi); (try clear ho0); obtain ⟨Ao73, co73, eo73⟩ := Kd.R_slice HO167.out; subst eo73; have p168 : 0 ≤ (0 : Int) := (by omega); have q168 : 0 < (t165.length : Int) := of_decide_eq_true (by first | (with_reducible assumption) | assumption); obtain ⟨ad168, e168, hx168_0, hx168_1, hx168_2, hx168_3, hx168_4, hx168_5⟩ := at_T32 (Kd.R_reads' HO167.out).2.2 0 p168 q168; cases e168; have qi168 : (0 < t165.length) = True := eq_true (by omega); (try rw [show ((0 : Int)).toNat = 0 from rfl] at hx168_0); (try rw [show 0 * 6 = 0 from rfl] at hx168_0); (try rw [Addr.add_zero'] at hx168_0); (try rw [show ((0 : Int)).toNat = 0 from rfl] at hx168_1); (try rw [show 0 * 6 = 0 from rfl] at hx168_1); (try rw [Addr.add_zero'] at hx168_1); (try rw [show ((0 : Int)).toNat = 0 from rfl] at hx168_2); (try rw [show 0 * 6 = 0 from rfl] at hx168_2); (try rw [Addr.add_zero'] at hx168_2); (try rw [show ((0 : Int)).toNat = 0 from rfl] at hx168_3); (try rw [show 0 * 6 = 0 from rfl] at hx168_3); (try rw [Addr.add_zero'] at hx168_3); (try rw [show ((0 : Int)).toNat = 0 from rfl] at hx168_4); (try rw [show 0 * 6 = 0 from rfl] at hx168_4); (try rw [Addr.add_zero'] at hx168_4); (try rw [show ((0 : Int)).toNat = 0 from rfl] at hx168_5); (try rw [show 0 * 6 = 0 from rfl] at hx168_5); (try rw [Addr.add_zero'] at hx168_5); replace p168 := eq_true p168; replace q168 := eq_true q168))
                                  go_roundg k2
                                  case measure => have := HJ3.out; have := HK2.out; omega
                                  case rel => exact ⟨((rd_T32 t165 0).f2), (wrap64 (x7_2 + 1)), (by first | rfl | (simp; done) | (simp [*]; done)), (by first | rfl | (simp; done) | (simp [*]; done)), H', ⟨by have := HJ3.out; have := HK2.out; omega⟩, ⟨by repeat (first | (with_reducible first | exact HB.out | apply below_alloc | apply pw_below_drewN | apply below_drew1 | refine below_set ?_ GE142.out) | exact HB.out)⟩⟩
                                · rw [if_neg c66] at H
                                  exact absurd H (by simp)
                              · rw [if_neg c64] at H
                                exact absurd H (by simp)
                            · rw [if_neg c63] at H
                              exact absurd H (by simp)
                          · replace c61 := Bool.eq_false_iff.mpr c61
                            subst c61
                            have H1 : (some false) = some r := by rw [if_neg (show ¬ (false = true) by decide)] at H; exact H
                            clear H
                            have H := H1
                            clear H1
                            obtain rfl := Option.some.inj H
                            have p141 : 0 ≤ (x7_2 : Int) := of_decide_eq_true (by first | (with_reducible assumption) | assumption)
                            have q141 : x7_2 < (l2.length : Int) := of_decide_eq_true (by first | (with_reducible assumption) | assumption)
                            obtain ⟨ad141, e141, hx141_0, hx141_1, hx141_2⟩ := at_T27 HR2.out x7_2 p141 q141
                            cases e141
                            replace hx141_0 := (HB.out.cell (World.block_lt_of_cell? w _ hx141_0)).trans hx141_0
                            replace hx141_1 := (HB.out.cell (World.block_lt_of_cell? w _ hx141_1)).trans hx141_1
                            replace hx141_2 := (HB.out.cell (World.block_lt_of_cell? w _ hx141_2)).trans hx141_2
                            replace p141 := eq_true p141
                            replace q141 := eq_true q141
                            go_wp2_with (first | ((with_reducible refine gate_dst (N := 8) rfl ?_); (try (refine gate_guard (by rfl) ?_; dsimp only)); refine box_event ?hg (N := 8) ?hd (cs := #[.int .i64 0, .int .i64 0, .string (⟨#[]⟩ : ByteArray)]) (t := 27) ?hr ?_; (case hd => rfl); (case hg => rfl); (case hr => first | (go_simp; done) | (go_simp; rfl)); intro gb142 hg w74 hbox hb; have n0_ := Aside0.mk (below_step (by repeat (first | (with_reducible first | exact HB.out | apply below_alloc | apply pw_below_drewN | apply below_drew1) | exact HB.out)) hb); have n1_ := Aside0.mk (hbox); have n2_ := Aside0.mk ((by rw [hg]; exact (below_size (by repeat (first | (with_reducible first | exact HB.out | apply below_alloc | apply pw_below_drewN | apply below_drew1) | exact HB.out))) : w.heap.size ≤ gb142)); have n3_ := Aside0.mk ((by rw [hg]; exact (below_size (by repeat (first | (with_reducible first | exact HB.out | apply below_alloc | apply pw_below_drewN | apply below_drew1) | exact HB.out))) : w.heap.size ≤ gb142)); clear HB; have HB := n0_; have BK142 := n1_; have GW142 := n2_; have GE142 := n3_; clear n0_ n1_ n2_ n3_; clear hb hbox hg; have hcz75_0 : w74.cell? ⟨gb142, 0, none⟩ = some (.int .i64 0) := (blk_cell BK142.out 0).trans rfl; have hcz75_1 : w74.cell? ⟨gb142, 1, none⟩ = some (.int .i64 0) := (blk_cell BK142.out 1).trans rfl; have hcz75_2 : w74.cell? ⟨gb142, 2, none⟩ = some (.string (⟨#[]⟩ : ByteArray)) := (blk_cell BK142.out 2).trans rfl; have hfz75_0 := blk_frozen BK142.out 0; have hfz75_1 := blk_frozen BK142.out 1; have hfz75_2 := blk_frozen BK142.out 2) | (go_at_call 33; (with_reducible refine (spec_tagAscii.calls k2 ((rd_T27 l2 x7_2).f2) false _ A60.out).mono ?_); rintro e w' ⟨rfl, ⟨nd, rfl⟩⟩))
                            go_ret
                            exact ⟨by first | rfl | (simp [errW_none, errW_some] <;> rfl) | (simp [*, errW_none, errW_some] <;> rfl), by repeat (first | (with_reducible first | exact HB.out | apply below_alloc | apply pw_below_drewN | apply below_drew1 | refine below_set ?_ GE142.out) | exact HB.out)⟩
                  · rw [if_neg c50] at H
                    have c50b0 : (((rd_T27 l2 x7_2).f0) == 1) = false := beq_eq_false_iff_ne.mpr c50
                    have c50b1 : (((rd_T27 l2 x7_2).f0) != 1) = true := bne_iff_ne.mpr c50
                    obtain rfl := Option.some.inj H
                    have p141 : 0 ≤ (x7_2 : Int) := of_decide_eq_true (by first | (with_reducible assumption) | assumption)
                    have q141 : x7_2 < (l2.length : Int) := of_decide_eq_true (by first | (with_reducible assumption) | assumption)
                    obtain ⟨ad141, e141, hx141_0, hx141_1, hx141_2⟩ := at_T27 HR2.out x7_2 p141 q141
                    cases e141
                    replace hx141_0 := (HB.out.cell (World.block_lt_of_cell? w _ hx141_0)).trans hx141_0
                    replace hx141_1 := (HB.out.cell (World.block_lt_of_cell? w _ hx141_1)).trans hx141_1
                    replace hx141_2 := (HB.out.cell (World.block_lt_of_cell? w _ hx141_2)).trans hx141_2
                    replace p141 := eq_true p141
                    replace q141 := eq_true q141
                    go_wp2_with (first | ((with_reducible refine gate_dst (N := 8) rfl ?_); (try (refine gate_guard (by rfl) ?_; dsimp only)); refine box_event ?hg (N := 8) ?hd (cs := #[.int .i64 0, .int .i64 0, .string (⟨#[]⟩ : ByteArray)]) (t := 27) ?hr ?_; (case hd => rfl); (case hg => rfl); (case hr => first | (go_simp; done) | (go_simp; rfl)); intro gb142 hg w76 hbox hb; have n0_ := Aside0.mk (below_step (by repeat (first | (with_reducible first | exact HB.out | apply below_alloc | apply pw_below_drewN | apply below_drew1) | exact HB.out)) hb); have n1_ := Aside0.mk (hbox); have n2_ := Aside0.mk ((by rw [hg]; exact (below_size (by repeat (first | (with_reducible first | exact HB.out | apply below_alloc | apply pw_below_drewN | apply below_drew1) | exact HB.out))) : w.heap.size ≤ gb142)); have n3_ := Aside0.mk ((by rw [hg]; exact (below_size (by repeat (first | (with_reducible first | exact HB.out | apply below_alloc | apply pw_below_drewN | apply below_drew1) | exact HB.out))) : w.heap.size ≤ gb142)); clear HB; have HB := n0_; have BK142 := n1_; have GW142 := n2_; have GE142 := n3_; clear n0_ n1_ n2_ n3_; clear hb hbox hg; have hcz77_0 : w76.cell? ⟨gb142, 0, none⟩ = some (.int .i64 0) := (blk_cell BK142.out 0).trans rfl; have hcz77_1 : w76.cell? ⟨gb142, 1, none⟩ = some (.int .i64 0) := (blk_cell BK142.out 1).trans rfl; have hcz77_2 : w76.cell? ⟨gb142, 2, none⟩ = some (.string (⟨#[]⟩ : ByteArray)) := (blk_cell BK142.out 2).trans rfl; have hfz77_0 := blk_frozen BK142.out 0; have hfz77_1 := blk_frozen BK142.out 1; have hfz77_2 := blk_frozen BK142.out 2))
                    go_ret
                    exact ⟨by first | rfl | (simp [errW_none, errW_some] <;> rfl) | (simp [*, errW_none, errW_some] <;> rfl), by repeat (first | (with_reducible first | exact HB.out | apply below_alloc | apply pw_below_drewN | apply below_drew1 | refine below_set ?_ GE142.out) | exact HB.out)⟩
              · rw [if_neg c10] at H
                exact absurd H (by simp)
            · rw [if_neg c9] at H
              have c9b0 : decide (x7_2 < (l2.length : Int)) = false := decide_eq_false c9
              clear c9
              obtain rfl := Option.some.inj H
              go_wp2
              go_ret
              exact ⟨by first | rfl | (simp [errW_none, errW_some] <;> rfl) | (simp [*, errW_none, errW_some] <;> rfl), by repeat (first | (with_reducible first | exact HB.out | apply below_alloc | apply pw_below_drewN | apply below_drew1) | exact HB.out)⟩

/-! ### laws_zzFits2: function 32 -/
def laws_zzFits2.f (a0_0 : Int) (a0_1 : Int) (a0_2 : ByteArray) : Option (Bool) := if (a0_2.size : Int) > 2147483647 then (some false) else (some true)
set_option maxHeartbeats 8000000 in
set_option maxRecDepth 100000 in
theorem laws_zzFits2.calls (a0_0 : Int) (a0_1 : Int) (a0_2 : ByteArray) (r : Bool) (w : World) (h : laws_zzFits2.f a0_0 a0_1 a0_2 = some r) :
    Calls Tryd.prog 32 #[.agg #[.int .i64 a0_0, .int .i64 a0_1, .string a0_2]] w fun e w' => e = .returned (.bool r) ∧ Below w.heap.size w w' := by
  have hu27 := Tryd.underlying27
  have HB := Aside0.mk (Below.refl w.heap.size w)
  have H : (if (a0_2.size : Int) > 2147483647 then (some false) else (some true)) = some r := h
  clear h
  by_cases c2 : (a0_2.size : Int) > 2147483647
  · rw [if_pos c2] at H
    have c2b0 : decide (2147483647 < (a0_2.size : Int)) = true := decide_eq_true c2
    have c2b1 : decide (2147483647 < a0_2.size) = true := decide_eq_true (by omega)
    clear c2
    obtain rfl := Option.some.inj H
    go_enter Tryd.func32, Tryd.ntmps32
    go_wp2_with (first | ((with_reducible refine gate_dst (N := 1) rfl ?_); refine box_event ?hg (N := 1) ?hd (cs := #[.int .i64 a0_0, .int .i64 a0_1, .string a0_2]) (t := 27) ?hr ?_; (case hd => rfl); (case hg => rfl); (case hr => first | (go_simp; done) | (go_simp; rfl)); intro gb169 hg w3 hbox hb; have n0_ := Aside0.mk (below_step (by repeat (first | (with_reducible first | exact HB.out | apply below_alloc | apply pw_below_drewN | apply below_drew1) | exact HB.out)) hb); have n1_ := Aside0.mk (hbox); have n2_ := Aside0.mk ((by rw [hg]; exact (below_size (by repeat (first | (with_reducible first | exact HB.out | apply below_alloc | apply pw_below_drewN | apply below_drew1) | exact HB.out))) : w.heap.size ≤ gb169)); have n3_ := Aside0.mk ((by rw [hg]; exact (below_size (by repeat (first | (with_reducible first | exact HB.out | apply below_alloc | apply pw_below_drewN | apply below_drew1) | exact HB.out))) : w.heap.size ≤ gb169)); clear HB; have HB := n0_; have BK169 := n1_; have GW169 := n2_; have GE169 := n3_; clear n0_ n1_ n2_ n3_; clear hb hbox hg; have hcz4_0 : w3.cell? ⟨gb169, 0, none⟩ = some (.int .i64 a0_0) := (blk_cell BK169.out 0).trans rfl; have hcz4_1 : w3.cell? ⟨gb169, 1, none⟩ = some (.int .i64 a0_1) := (blk_cell BK169.out 1).trans rfl; have hcz4_2 : w3.cell? ⟨gb169, 2, none⟩ = some (.string a0_2) := (blk_cell BK169.out 2).trans rfl; have hfz4_0 := blk_frozen BK169.out 0; have hfz4_1 := blk_frozen BK169.out 1; have hfz4_2 := blk_frozen BK169.out 2))
    go_ret
    exact ⟨by first | rfl | (simp [errW_none, errW_some] <;> rfl) | (simp [*, errW_none, errW_some] <;> rfl), by repeat (first | (with_reducible first | exact HB.out | apply below_alloc | apply pw_below_drewN | apply below_drew1 | refine below_set ?_ GE169.out) | exact HB.out)⟩
  · rw [if_neg c2] at H
    have c2b0 : decide (2147483647 < (a0_2.size : Int)) = false := decide_eq_false c2
    have c2b1 : decide (2147483647 < a0_2.size) = false := decide_eq_false (by omega)
    clear c2
    obtain rfl := Option.some.inj H
    go_enter Tryd.func32, Tryd.ntmps32
    go_wp2_with (first | ((with_reducible refine gate_dst (N := 1) rfl ?_); refine box_event ?hg (N := 1) ?hd (cs := #[.int .i64 a0_0, .int .i64 a0_1, .string a0_2]) (t := 27) ?hr ?_; (case hd => rfl); (case hg => rfl); (case hr => first | (go_simp; done) | (go_simp; rfl)); intro gb169 hg w5 hbox hb; have n0_ := Aside0.mk (below_step (by repeat (first | (with_reducible first | exact HB.out | apply below_alloc | apply pw_below_drewN | apply below_drew1) | exact HB.out)) hb); have n1_ := Aside0.mk (hbox); have n2_ := Aside0.mk ((by rw [hg]; exact (below_size (by repeat (first | (with_reducible first | exact HB.out | apply below_alloc | apply pw_below_drewN | apply below_drew1) | exact HB.out))) : w.heap.size ≤ gb169)); have n3_ := Aside0.mk ((by rw [hg]; exact (below_size (by repeat (first | (with_reducible first | exact HB.out | apply below_alloc | apply pw_below_drewN | apply below_drew1) | exact HB.out))) : w.heap.size ≤ gb169)); clear HB; have HB := n0_; have BK169 := n1_; have GW169 := n2_; have GE169 := n3_; clear n0_ n1_ n2_ n3_; clear hb hbox hg; have hcz6_0 : w5.cell? ⟨gb169, 0, none⟩ = some (.int .i64 a0_0) := (blk_cell BK169.out 0).trans rfl; have hcz6_1 : w5.cell? ⟨gb169, 1, none⟩ = some (.int .i64 a0_1) := (blk_cell BK169.out 1).trans rfl; have hcz6_2 : w5.cell? ⟨gb169, 2, none⟩ = some (.string a0_2) := (blk_cell BK169.out 2).trans rfl; have hfz6_0 := blk_frozen BK169.out 0; have hfz6_1 := blk_frozen BK169.out 1; have hfz6_2 := blk_frozen BK169.out 2))
    go_ret
    exact ⟨by first | rfl | (simp [errW_none, errW_some] <;> rfl) | (simp [*, errW_none, errW_some] <;> rfl), by repeat (first | (with_reducible first | exact HB.out | apply below_alloc | apply pw_below_drewN | apply below_drew1 | refine below_set ?_ GE169.out) | exact HB.out)⟩

/-! ### laws_zzFits1: function 20 -/
def laws_zzFits1.l0 : Nat → List (S27) → Int → Int → Option (Bool)
  | 0, _, _, _ => none
  | k + 1, x8, x9, x10 => if x10 < x9 then (if 0 ≤ x10 then (if x10 < (x8.length : Int) then ((laws_zzFits2.f ((rd_T27 x8 x10).f0) ((rd_T27 x8 x10).f1) ((rd_T27 x8 x10).f2)).bind fun t172 => (if t172 = true then (laws_zzFits1.l0 k x8 x9 (wrap64 (x10 + 1))) else (some false))) else (none)) else (none)) else (some true)
def laws_zzFits1.f (k : Nat) (l0 : List (S27)) : Option (Bool) := if (l0.length : Int) > 2147483647 then (some false) else (laws_zzFits1.l0 k l0 (l0.length : Int) 0)
theorem laws_zzFits1.mono_l : ∀ k, (∀ y0 y1 y2, LeO (laws_zzFits1.l0 k y0 y1 y2) (laws_zzFits1.l0 (k + 1) y0 y1 y2))
  | 0 => fun _ _ _ r h => by simp [laws_zzFits1.l0] at h
  | k + 1 => by
    have ih0 := laws_zzFits1.mono_l k
    · intro y0 y1 y2
      unfold laws_zzFits1.l0
      repeat' first
      | (with_reducible exact ih0 _ _ _)
      | (with_reducible exact LeO.refl _)
      | (with_reducible exact LeO.none _)
      | (with_reducible refine LeO.ite ?_ ?_)
      | (with_reducible refine LeO.bind ?_ (fun _ => ?_))
      | exact ih0 _ _ _
      | exact LeO.none _
      | refine LeO.ite ?_ ?_
      | refine LeO.bind ?_ (fun _ => ?_)
theorem laws_zzFits1.mono : ∀ a0 k, LeO (laws_zzFits1.f k a0) (laws_zzFits1.f (k + 1) a0) := by
  intro a0 k
  have ih0 := laws_zzFits1.mono_l k
  unfold laws_zzFits1.f
  repeat' first
      | (with_reducible exact ih0 _ _ _)
      | (with_reducible exact LeO.refl _)
      | (with_reducible exact LeO.none _)
      | (with_reducible refine LeO.ite ?_ ?_)
      | (with_reducible refine LeO.bind ?_ (fun _ => ?_))
      | exact ih0 _ _ _
      | exact LeO.none _
      | refine LeO.ite ?_ ?_
      | refine LeO.bind ?_ (fun _ => ?_)
set_option maxHeartbeats 8000000 in
set_option maxRecDepth 100000 in
theorem laws_zzFits1.calls (k : Nat) (A0 : Option Addr) (c0 : Nat) (l0 : List (S27)) (r : Bool) (w : World) (hr0 : Kd.C k27 w A0 l0.length l0) (hc0 : l0.length ≤ c0) (h : laws_zzFits1.f k l0 = some r) :
    Calls Tryd.prog 20 #[.slice A0 l0.length c0] w fun e w' => e = .returned (.bool r) ∧ Below w.heap.size w w' := by
  have hu27 := Tryd.underlying27
  have HR0 := Aside0.mk hr0
  have HC0 := Aside0.mk hc0
  clear hr0 hc0
  have HB := Aside0.mk (Below.refl w.heap.size w)
  have H : (if (l0.length : Int) > 2147483647 then (some false) else (laws_zzFits1.l0 k l0 (l0.length : Int) 0)) = some r := h
  clear h
  by_cases c2 : (l0.length : Int) > 2147483647
  · rw [if_pos c2] at H
    have c2b0 : decide (2147483647 < (l0.length : Int)) = true := decide_eq_true c2
    have c2b1 : decide (2147483647 < l0.length) = true := decide_eq_true (by omega)
    clear c2
    obtain rfl := Option.some.inj H
    go_enter Tryd.func20, Tryd.ntmps20
    go_wp2
    go_ret
    exact ⟨by first | rfl | (simp [errW_none, errW_some] <;> rfl) | (simp [*, errW_none, errW_some] <;> rfl), by repeat (first | (with_reducible first | exact HB.out | apply below_alloc | apply pw_below_drewN | apply below_drew1) | exact HB.out)⟩
  · rw [if_neg c2] at H
    have c2b0 : decide (2147483647 < (l0.length : Int)) = false := decide_eq_false c2
    have c2b1 : decide (2147483647 < l0.length) = false := decide_eq_false (by omega)
    clear c2
    have H' := Aside0.mk H
    clear H
    go_enter Tryd.func20, Tryd.ntmps20
    go_wp2
    try simp only [Act.put, List.setIfInBounds_toArray, List.set_cons_succ, List.set_cons_zero]
    go_loopg [10] k (fun kq v10 w' => ∃ (x10_1 : Int), v10 = .int .i64 x10_1 ∧ Aside0 (laws_zzFits1.l0 kq l0 (l0.length : Int) x10_1 = some r) ∧ Aside0 (kq ≤ k) ∧ Aside0 (Below w.heap.size w w'))
    case atStart => exact ⟨(0), (by first | rfl | (simp; done) | (simp [*]; done)), H', ⟨Nat.le_refl _⟩, ⟨by repeat (first | (with_reducible first | exact HB.out | apply below_alloc | apply pw_below_drewN | apply below_drew1) | exact HB.out)⟩⟩
    case round =>
      clear H'
      try clear c2
      try clear c2b0
      try clear c2b1
      try clear p2
      obtain ⟨x10_1, rfl, HA, HK1, HB⟩ := hrel
      cases gk with
      | zero => exact absurd HA.out (by simp [laws_zzFits1.l0])
      | succ k1 =>
        have H := HA.out
        clear HA
        simp only [laws_zzFits1.l0] at H
        by_cases c3 : x10_1 < (l0.length : Int)
        · rw [if_pos c3] at H
          have c3b0 : decide (x10_1 < (l0.length : Int)) = true := decide_eq_true c3
          clear c3
          by_cases c4 : 0 ≤ x10_1
          · rw [if_pos c4] at H
            have c4b0 : decide (0 ≤ x10_1) = true := decide_eq_true c4
            clear c4
            by_cases c5 : x10_1 < (l0.length : Int)
            · rw [if_pos c5] at H
              have c5b0 : decide (x10_1 < (l0.length : Int)) = true := decide_eq_true c5
              clear c5
              replace H := Option.bind_eq_some_iff.mp H
              obtain ⟨t172, A60, H⟩ := H
              replace H : (if t172 = true then (laws_zzFits1.l0 k1 l0 (l0.length : Int) (wrap64 (x10_1 + 1))) else (some false)) = some r := H
              have A6 := Aside0.mk A60
              clear A60
              by_cases c7 : t172 = true
              · subst c7
                have H1 : (laws_zzFits1.l0 k1 l0 (l0.length : Int) (wrap64 (x10_1 + 1))) = some r := by rw [if_pos rfl] at H; exact H
                clear H
                have H := H1
                clear H1
                have H' := Aside0.mk H
                clear H
                have p170 : 0 ≤ (x10_1 : Int) := of_decide_eq_true (by first | (with_reducible assumption) | assumption)
                have q170 : x10_1 < (l0.length : Int) := of_decide_eq_true (by first | (with_reducible assumption) | assumption)
                obtain ⟨ad170, e170, hx170_0, hx170_1, hx170_2⟩ := at_T27 HR0.out x10_1 p170 q170
                cases e170
                replace hx170_0 := (HB.out.cell (World.block_lt_of_cell? w _ hx170_0)).trans hx170_0
                replace hx170_1 := (HB.out.cell (World.block_lt_of_cell? w _ hx170_1)).trans hx170_1
                replace hx170_2 := (HB.out.cell (World.block_lt_of_cell? w _ hx170_2)).trans hx170_2
                replace p170 := eq_true p170
                replace q170 := eq_true q170
                go_wp2_with (first | ((with_reducible refine gate_dst (N := 4) rfl ?_); refine box_event ?hg (N := 4) ?hd (cs := #[.int .i64 0, .int .i64 0, .string (⟨#[]⟩ : ByteArray)]) (t := 27) ?hr ?_; (case hd => rfl); (case hg => rfl); (case hr => first | (go_simp; done) | (go_simp; rfl)); intro gb171 hg w8 hbox hb; have n0_ := Aside0.mk (below_step (by repeat (first | (with_reducible first | exact HB.out | apply below_alloc | apply pw_below_drewN | apply below_drew1) | exact HB.out)) hb); have n1_ := Aside0.mk (hbox); have n2_ := Aside0.mk ((by rw [hg]; exact (below_size (by repeat (first | (with_reducible first | exact HB.out | apply below_alloc | apply pw_below_drewN | apply below_drew1) | exact HB.out))) : w.heap.size ≤ gb171)); have n3_ := Aside0.mk ((by rw [hg]; exact (below_size (by repeat (first | (with_reducible first | exact HB.out | apply below_alloc | apply pw_below_drewN | apply below_drew1) | exact HB.out))) : w.heap.size ≤ gb171)); clear HB; have HB := n0_; have BK171 := n1_; have GW171 := n2_; have GE171 := n3_; clear n0_ n1_ n2_ n3_; clear hb hbox hg; have hcz9_0 : w8.cell? ⟨gb171, 0, none⟩ = some (.int .i64 0) := (blk_cell BK171.out 0).trans rfl; have hcz9_1 : w8.cell? ⟨gb171, 1, none⟩ = some (.int .i64 0) := (blk_cell BK171.out 1).trans rfl; have hcz9_2 : w8.cell? ⟨gb171, 2, none⟩ = some (.string (⟨#[]⟩ : ByteArray)) := (blk_cell BK171.out 2).trans rfl; have hfz9_0 := blk_frozen BK171.out 0; have hfz9_1 := blk_frozen BK171.out 1; have hfz9_2 := blk_frozen BK171.out 2) | ((with_reducible refine gate_callee (f := 32) rfl ?_); refine goesL_ (some 15) rfl rfl Tryd.func32 (by kernel_rfl) rfl #[.agg #[.int .i64 ((rd_T27 l0 x10_1).f0), .int .i64 ((rd_T27 l0 x10_1).f1), .string ((rd_T27 l0 x10_1).f2)]] rfl (by (try simp only [List.map_toArray, List.map_cons, List.map_nil]); first | done | rfl | (simp only [List.length_drop, List.length_take]; rfl)) ?_; (with_reducible refine (laws_zzFits2.calls ((rd_T27 l0 x10_1).f0) ((rd_T27 l0 x10_1).f1) ((rd_T27 l0 x10_1).f2) true _ A6.out).mono ?_); rintro e w10 ⟨rfl, hb⟩; refine ⟨_, rfl, ?_⟩; have n0_ := Aside0.mk (blk_below (g := gb171) (o := .cells #[.int .i64 ((rd_T27 l0 x10_1).f0), .int .i64 ((rd_T27 l0 x10_1).f1), .string ((rd_T27 l0 x10_1).f2)] 27 (0, 0)) (by (with_reducible repeat (first | refine blk_drewN ?_ _ | refine blk_drew ?_ | refine blk_alloc ?_ _)); refine blk_put (cs := #[.int .i64 ((rd_T27 l0 x10_1).f0), .int .i64 ((rd_T27 l0 x10_1).f1), .string (⟨#[]⟩ : ByteArray)]) ?_ 2 _ rfl; (with_reducible repeat (first | refine blk_drewN ?_ _ | refine blk_drew ?_ | refine blk_alloc ?_ _)); refine blk_put (cs := #[.int .i64 ((rd_T27 l0 x10_1).f0), .int .i64 0, .string (⟨#[]⟩ : ByteArray)]) ?_ 1 _ rfl; (with_reducible repeat (first | refine blk_drewN ?_ _ | refine blk_drew ?_ | refine blk_alloc ?_ _)); refine blk_put (cs := #[.int .i64 0, .int .i64 0, .string (⟨#[]⟩ : ByteArray)]) ?_ 0 _ rfl; (with_reducible repeat (first | refine blk_drewN ?_ _ | refine blk_drew ?_ | refine blk_alloc ?_ _)); exact BK171.out) hb); have n1_ := Aside0.mk (below_step (by repeat (first | (with_reducible first | exact HB.out | apply below_alloc | apply pw_below_drewN | apply below_drew1 | refine below_set ?_ GE171.out) | exact HB.out)) hb); clear BK171; clear HB; have BK171 := n0_; have HB := n1_; clear n0_ n1_; (try clear hb); (try clear hb2); (try clear hk); (try clear hi)))
                go_roundg k1
                case measure => have := HK1.out; omega
                case rel => exact ⟨(wrap64 (x10_1 + 1)), (by first | rfl | (simp; done) | (simp [*]; done)), H', ⟨by have := HK1.out; omega⟩, ⟨by repeat (first | (with_reducible first | exact HB.out | apply below_alloc | apply pw_below_drewN | apply below_drew1 | refine below_set ?_ GE171.out) | exact HB.out)⟩⟩
              · replace c7 := Bool.eq_false_iff.mpr c7
                subst c7
                have H1 : (some false) = some r := by rw [if_neg (show ¬ (false = true) by decide)] at H; exact H
                clear H
                have H := H1
                clear H1
                obtain rfl := Option.some.inj H
                have p170 : 0 ≤ (x10_1 : Int) := of_decide_eq_true (by first | (with_reducible assumption) | assumption)
                have q170 : x10_1 < (l0.length : Int) := of_decide_eq_true (by first | (with_reducible assumption) | assumption)
                obtain ⟨ad170, e170, hx170_0, hx170_1, hx170_2⟩ := at_T27 HR0.out x10_1 p170 q170
                cases e170
                replace hx170_0 := (HB.out.cell (World.block_lt_of_cell? w _ hx170_0)).trans hx170_0
                replace hx170_1 := (HB.out.cell (World.block_lt_of_cell? w _ hx170_1)).trans hx170_1
                replace hx170_2 := (HB.out.cell (World.block_lt_of_cell? w _ hx170_2)).trans hx170_2
                replace p170 := eq_true p170
                replace q170 := eq_true q170
                go_wp2_with (first | ((with_reducible refine gate_dst (N := 4) rfl ?_); refine box_event ?hg (N := 4) ?hd (cs := #[.int .i64 0, .int .i64 0, .string (⟨#[]⟩ : ByteArray)]) (t := 27) ?hr ?_; (case hd => rfl); (case hg => rfl); (case hr => first | (go_simp; done) | (go_simp; rfl)); intro gb171 hg w11 hbox hb; have n0_ := Aside0.mk (below_step (by repeat (first | (with_reducible first | exact HB.out | apply below_alloc | apply pw_below_drewN | apply below_drew1) | exact HB.out)) hb); have n1_ := Aside0.mk (hbox); have n2_ := Aside0.mk ((by rw [hg]; exact (below_size (by repeat (first | (with_reducible first | exact HB.out | apply below_alloc | apply pw_below_drewN | apply below_drew1) | exact HB.out))) : w.heap.size ≤ gb171)); have n3_ := Aside0.mk ((by rw [hg]; exact (below_size (by repeat (first | (with_reducible first | exact HB.out | apply below_alloc | apply pw_below_drewN | apply below_drew1) | exact HB.out))) : w.heap.size ≤ gb171)); clear HB; have HB := n0_; have BK171 := n1_; have GW171 := n2_; have GE171 := n3_; clear n0_ n1_ n2_ n3_; clear hb hbox hg; have hcz12_0 : w11.cell? ⟨gb171, 0, none⟩ = some (.int .i64 0) := (blk_cell BK171.out 0).trans rfl; have hcz12_1 : w11.cell? ⟨gb171, 1, none⟩ = some (.int .i64 0) := (blk_cell BK171.out 1).trans rfl; have hcz12_2 : w11.cell? ⟨gb171, 2, none⟩ = some (.string (⟨#[]⟩ : ByteArray)) := (blk_cell BK171.out 2).trans rfl; have hfz12_0 := blk_frozen BK171.out 0; have hfz12_1 := blk_frozen BK171.out 1; have hfz12_2 := blk_frozen BK171.out 2) | ((with_reducible refine gate_callee (f := 32) rfl ?_); refine goesL_ (some 15) rfl rfl Tryd.func32 (by kernel_rfl) rfl #[.agg #[.int .i64 ((rd_T27 l0 x10_1).f0), .int .i64 ((rd_T27 l0 x10_1).f1), .string ((rd_T27 l0 x10_1).f2)]] rfl (by (try simp only [List.map_toArray, List.map_cons, List.map_nil]); first | done | rfl | (simp only [List.length_drop, List.length_take]; rfl)) ?_; (with_reducible refine (laws_zzFits2.calls ((rd_T27 l0 x10_1).f0) ((rd_T27 l0 x10_1).f1) ((rd_T27 l0 x10_1).f2) false _ A6.out).mono ?_); rintro e w13 ⟨rfl, hb⟩; refine ⟨_, rfl, ?_⟩; have n0_ := Aside0.mk (blk_below (g := gb171) (o := .cells #[.int .i64 ((rd_T27 l0 x10_1).f0), .int .i64 ((rd_T27 l0 x10_1).f1), .string ((rd_T27 l0 x10_1).f2)] 27 (0, 0)) (by (with_reducible repeat (first | refine blk_drewN ?_ _ | refine blk_drew ?_ | refine blk_alloc ?_ _)); refine blk_put (cs := #[.int .i64 ((rd_T27 l0 x10_1).f0), .int .i64 ((rd_T27 l0 x10_1).f1), .string (⟨#[]⟩ : ByteArray)]) ?_ 2 _ rfl; (with_reducible repeat (first | refine blk_drewN ?_ _ | refine blk_drew ?_ | refine blk_alloc ?_ _)); refine blk_put (cs := #[.int .i64 ((rd_T27 l0 x10_1).f0), .int .i64 0, .string (⟨#[]⟩ : ByteArray)]) ?_ 1 _ rfl; (with_reducible repeat (first | refine blk_drewN ?_ _ | refine blk_drew ?_ | refine blk_alloc ?_ _)); refine blk_put (cs := #[.int .i64 0, .int .i64 0, .string (⟨#[]⟩ : ByteArray)]) ?_ 0 _ rfl; (with_reducible repeat (first | refine blk_drewN ?_ _ | refine blk_drew ?_ | refine blk_alloc ?_ _)); exact BK171.out) hb); have n1_ := Aside0.mk (below_step (by repeat (first | (with_reducible first | exact HB.out | apply below_alloc | apply pw_below_drewN | apply below_drew1 | refine below_set ?_ GE171.out) | exact HB.out)) hb); clear BK171; clear HB; have BK171 := n0_; have HB := n1_; clear n0_ n1_; (try clear hb); (try clear hb2); (try clear hk); (try clear hi)))
                go_ret
                exact ⟨by first | rfl | (simp [errW_none, errW_some] <;> rfl) | (simp [*, errW_none, errW_some] <;> rfl), by repeat (first | (with_reducible first | exact HB.out | apply below_alloc | apply pw_below_drewN | apply below_drew1 | refine below_set ?_ GE171.out) | exact HB.out)⟩
            · rw [if_neg c5] at H
              exact absurd H (by simp)
          · rw [if_neg c4] at H
            exact absurd H (by simp)
        · rw [if_neg c3] at H
          have c3b0 : decide (x10_1 < (l0.length : Int)) = false := decide_eq_false c3
          clear c3
          obtain rfl := Option.some.inj H
          go_wp2
          go_ret
          exact ⟨by first | rfl | (simp [errW_none, errW_some] <;> rfl) | (simp [*, errW_none, errW_some] <;> rfl), by repeat (first | (with_reducible first | exact HB.out | apply below_alloc | apply pw_below_drewN | apply below_drew1) | exact HB.out)⟩

end Go.Proofs.YthjddnmfpdcjnaaDoor.PSp
