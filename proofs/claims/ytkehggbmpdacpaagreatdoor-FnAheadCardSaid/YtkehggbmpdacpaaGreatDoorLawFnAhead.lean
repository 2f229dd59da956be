/- FnAhead: its walk. -/
import Derived.Test.YtkehggbmpdacpaaGreatDoorLwBg
import Derived.Test.YtkehggbmpdacpaaGreatDoorPg70
import Derived.Test.YtkehggbmpdacpaaGreatDoorKp14
set_option maxRecDepth 100000
set_option linter.unusedVariables false
set_option linter.unusedSimpArgs false
set_option linter.unusedSectionVars false
namespace Go.Proofs.YtkehggbmpdacpaaGreatDoor.Pg
open Go.Rx hiding bt
open Go.RowKit Go.Proofs.YtkehggbmpdacpaaGreatDoor.Dec0 Go.Proofs.YtkehggbmpdacpaaGreatDoor.Lex0
theorem brace_free {u : T} (h : Txt0.hasT [123] u = false) : ∀ c ∈ u, c ≠ 123 := by
  induction u with
  | nil => intro c hc; cases hc
  | cons a u ih =>
    have h2 : (([123] : T).isPrefixOf (a :: u) || Txt0.hasT [123] u) = false := h
    rw [Bool.or_eq_false_iff] at h2
    intro c hc
    rcases List.mem_cons.1 hc with rfl | hc
    · intro e
      rw [e] at h2
      simp [List.isPrefixOf] at h2
    · exact ih h2.2 c hc
theorem lead_of {p : ByteArray} {k : UInt8} (h : (decide (0 + (⟨#[123, 123, k]⟩ : ByteArray).size ≤ p.size) && (⟨#[123, 123, k]⟩ : ByteArray).data.toList.isPrefixOf (p.data.toList.drop 0)) = true) : ∃ r, p.data.toList = 123 :: 123 :: r := by
  rw [Bool.and_eq_true] at h
  have h2 := h.2
  rw [List.drop_zero, show (⟨#[123, 123, k]⟩ : ByteArray).data.toList = [123, 123, k] from rfl, List.isPrefixOf_iff_prefix] at h2
  obtain ⟨r, e⟩ := h2
  exact ⟨k :: r, e.symm⟩
theorem ahead_book {u p : T} (h : ∀ c ∈ u, c ≠ 123) (hp : ∃ r, p = 123 :: 123 :: r) : told ((b0.behind u ((told u false false).take ((told u false false).length - 1))).behind p (told p false false)).s false false = ((b0.behind u ((told u false false).take ((told u false false).length - 1))).behind p (told p false false)).l := by
  show told (([] ++ u) ++ p) false false = ([] ++ ((told u false false).take _).map (mvTi 0)) ++ (told p false false).map (mvTi ([] ++ u).length)
  rw [List.nil_append, List.nil_append, mvTi_zero, ← List.dropLast_eq_take]
  exact ahead_told ea_env.neg h hp
set_option maxHeartbeats 2000000 in
theorem ahead_calls (u p : ByteArray) (w : World) (hT : Tab w) (hs0 : u.size ≤ 140737488351232) (hs1 : p.size ≤ 140737488351232) :
    Calls Tryz.prog 3 #[.string u, .string p] w fun e w' => e = .returned (.bool true) ∧ Below w.heap.size w w' := by
  refine enter (fun _ => False) 66 [] Tryz.func3 rfl rfl rfl (vs := [.string u, .string p]) (Has.nil _) ?_
  conv => arg 2; arg 2; whnf
  have hW : ∃ W, Bs W ⟨66, [], fun _ => False, w⟩ ∧ Tab W := ⟨w, ⟨Below.refl _ _, fun k h => h.elim⟩, hT⟩
  have post : ∀ (f : Fr) (m : Mem), Rx.look f 4 = some (.bool true) → PJ ⟨66, [], fun _ => False, w⟩ (bodyPost Tryz.prog Tryz.f3 (fun e w' => e = .returned (.bool true) ∧ Below w.heap.size w w') .ret) f m := fun f m hf =>
    ret1 rfl rfl hf (fun w' hw' => ⟨rfl, hw'.2.below (fun k _ h => h) (Nat.le_refl _)⟩)
  have hsu := Txt0.size_list u
  have hsp := Txt0.size_list p
  repeat' ((fail_if_success (show PJ _ (Code.wp _ (Code.seq (Code.region 5 _ _) _) _) _ _)); first | first | refine cseq ?_ | refine rtext ?_ | refine ctrue rfl ?_ | refine cfalse rfl ?_ | refine cskip ?_ | refine cret ?_ | refine tret ?_ | refine jnil ?_ | (first | refine js rfl rfl ?_ | refine jmv rfl rfl rfl ?_ | refine jas_ rfl rfl rfl ?_ | (show Jo _ (.binOp _ _ _ _ _); first | (show Jo _ (.binOp .gtr _ _ _ _); refine jgtr rfl rfl rfl rfl (fun hq => ?_) (fun hq => ?_)) | (show Jo (some 20) (.binOp .add 3 _ _ _); refine jy (yadd (c := ((u.size + p.size : Nat) : Int)) rfl rfl (by rw [i64_in (by omega) (by omega)]; omega)) rfl rfl ?_)) | (show Jo _ (.pick _ _ _); first | refine jy (ypick1 rfl rfl) rfl rfl ?_ | refine jy (ypick0 rfl rfl) rfl rfl ?_) | refine jy (ynot rfl rfl) rfl rfl ?_ | (show Jo _ (.call _); first | (show Jo _ (.call ⟨.builtin .len, _, #[9]⟩); refine jy (ylens rfl Lw.und9) rfl rfl ?_) | (show Jo _ (.call ⟨.value (.func 14), _, _⟩); refine jcallq Lw.boHas rfl rfl rfl (Lw.has_in (by omega) (by decide)) ?_; refine jcases (fun hh => ?_) (fun hh => ?_)) | (show Jo (some 28) (.call ⟨.value (.func 15), _, _⟩); refine jcallq (vs := [.string p, .int .i64 ((0 : Nat) : Int), .string ⟨#[123, 123, 60]⟩]) Lw.boBg rfl rfl rfl (Lw.begins_in (by omega) (by omega) (by decide)) ?_; refine jcases (fun hg1 => ?_) (fun hg1 => ?_)) | (show Jo (some 32) (.call ⟨.value (.func 15), _, _⟩); refine jcallq (vs := [.string p, .int .i64 ((0 : Nat) : Int), .string ⟨#[123, 123, 37]⟩]) Lw.boBg rfl rfl rfl (Lw.begins_in (by omega) (by omega) (by decide)) ?_; refine jcases (fun hg1 => ?_) (fun hg1 => ?_)))))
  all_goals first | exact post _ _ rfl | skip
  all_goals
    have hp := lead_of hg1
    have hu := brace_free hh
    have htell := ahead_book hu hp
    have hlu := told_len u.data.toList false false
    have hlp := told_len p.data.toList false false
    have hpA := told_pos (s := u.data.toList) (fr := false) (dv := false)
    have hpC := told_pos (s := p.data.toList) (fr := false) (dv := false)
    have hwA : wholeT (told u.data.toList false false) = true := text_whole hu
    have hnz : 1 ≤ (told u.data.toList false false).length := by
      cases h : told u.data.toList false false with
      | nil => rw [h] at hwA; cases hwA
      | cons a l => simp
    repeat' ((fail_if_success (show PJ _ (Code.wp _ (Code.seq (Code.region 6 _ _) _) _) _ _)); first | first | refine cseq ?_ | refine rtext ?_ | refine jnil ?_ | (first | refine jmv rfl rfl rfl ?_ | refine jas_ rfl rfl rfl ?_ | (show Jo _ (.call _); first | (show Jo (some 37) (.call ⟨.value (.func 16), _, _⟩); refine jcall (ι := Row) (v := fun r' => r'.val (told u.data.toList false false).length) (m' := fun r' => r'.mem ((told u.data.toList false false).flatMap tiC) 42 ++ []) (fun r' => r'.ok 0 5 (told u.data.toList false false).length ((told u.data.toList false false).flatMap tiC)) bo16 rfl rfl rfl (parseB hW u.data.toList false false (by omega)) (fun r1 h1 => ?_)) | (show Jo (some 39) (.call ⟨.value (.func 16), _, _⟩); refine jcall (ι := Row) (v := fun r' => r'.val (told p.data.toList false false).length) (m' := fun r' => r'.mem ((told p.data.toList false false).flatMap tiC) 42 ++ (r1.mem ((told u.data.toList false false).flatMap tiC) 42 ++ [])) (fun r' => r'.ok 0 5 (told p.data.toList false false).length ((told p.data.toList false false).flatMap tiC)) bo16 rfl rfl rfl (parseB hW p.data.toList false false (by omega)) (fun r2 h2 => ?_)))))
    obtain ⟨A1, c1, e1, q1, k1⟩ := row_tis h1
    obtain ⟨A2, c2, e2, q2, k2⟩ := row_tis h2
    generalize told u.data.toList false false = lA at *
    generalize told p.data.toList false false = lC at *
    rw [e1, e2]
    have hA := fun (w' : World) (h : Has (r2.mem (lC.flatMap tiC) 42 ++ (r1.mem (lA.flatMap tiC) 42 ++ [])) w') => k1 w' (h.sub ((List.sublist_append_left _ []).trans (List.sublist_append_right _ _)))
    have hC := fun (w' : World) (h : Has (r2.mem (lC.flatMap tiC) 42 ++ (r1.mem (lA.flatMap tiC) 42 ++ [])) w') => k2 w' (h.sub (List.sublist_append_left _ _))
    generalize r2.mem (lC.flatMap tiC) 42 ++ (r1.mem (lA.flatMap tiC) 42 ++ []) = E at hA hC ⊢
    have hA1 := fun w' h => tis_take (hA w' h) (lA.length - 1) (Nat.sub_le _ _)
    have hr := bk0 (X := ⟨66, [], fun _ => False, w⟩)
    have hnA : lA.length ≤ 1000000000 := by omega
    have hnC : lC.length ≤ 1000000000 := by omega
    replace hpA : ∀ t ∈ lA, t.pos ≤ 1099511627776 := fun t ht => by have := hpA t ht; omega
    replace hpC : ∀ t ∈ lC, t.pos ≤ 1099511627776 := fun t ht => by have := hpC t ht; omega
    cases hwC : wholeT lC
    all_goals
      repeat' (first | refine cseq ?_ | refine rtext ?_ | refine ctrue rfl ?_ | refine cfalse rfl ?_ | refine cskip ?_ | refine cret ?_ | refine tret ?_ | refine jnil ?_ | (first | refine jmv rfl rfl rfl ?_ | refine jas_ rfl rfl rfl ?_ | (show Jo _ (.binOp _ _ _ _ _); ((show Jo _ (.binOp .sub _ _ _ _); refine jy (ysub (c := ((lA.length - 1 : Nat) : Int)) rfl rfl (by rw [i64_in (by omega) (by omega)]; omega)) rfl rfl ?_))) | (show Jo _ (.pick _ _ _); refine jy (ypick0 rfl rfl) rfl rfl ?_) | refine jy (ynot rfl rfl) rfl rfl ?_ | (show Jo _ (.call _); first | (show Jo _ (.call ⟨.builtin .len, _, _⟩); refine jy (ylenl rfl und24) rfl rfl ?_) | (show Jo (some 41) (.call ⟨.value (.func 17), _, _⟩); refine jcallq (v := .bool true) bo17 rfl rfl rfl (quietC fun w' hw' => wholeE (hA w' hw'.1) hnA hwA) ?_) | (show Jo (some 49) (.call ⟨.value (.func 17), _, _⟩); refine jcallq (v := .bool true) bo17 rfl rfl rfl (quietC fun w' hw' => wholeE (hA w' hw'.1) hnA hwA) ?_) | (show Jo (some 45) (.call ⟨.value (.func 17), _, _⟩); refine jcallq (v := .bool _) bo17 rfl rfl rfl (quietC fun w' hw' => wholeE (hC w' hw'.1) hnC hwC) ?_) | (show Jo (some 59) (.call ⟨.value (.func 18), _, _⟩); refine jcall (ι := Row) (v := fun _ => .tuple #[]) (m' := fun r' => bkS g _ r' E) (fun r' => BkOk _ r' _) bo18 rfl rfl rfl (behindB_calls hg hr hA1 (by rw [List.length_take]; omega) (fun x hx => hpA x (List.mem_of_mem_take hx)) (by rw [bsz_b0]; omega) (by omega)) (fun r hr => ?_)) | (show Jo (some 63) (.call ⟨.value (.func 18), _, _⟩); refine jcall (ι := Row) (v := fun _ => .tuple #[]) (m' := fun r' => bkS g _ r' E) (fun r' => BkOk _ r' _) bo18 rfl rfl rfl (behindB_calls hg hr hC hnC hpC (by rw [bsz_behind, bsz_b0, List.length_take, Txt0.size_list]; omega) (by omega)) (fun r hr => ?_)) | (show Jo _ (.call ⟨.value (.func 19), _, _⟩); refine jcall0 (v := .bool true) (bkS g _ r E) bo19 rfl rfl rfl (tells_calls hW hr _ _ (by rw [bsz_behind, bsz_behind, bsz_b0, List.length_take, Txt0.size_list, Txt0.size_list]; omega) htell) ?_)) | (show Jo _ (.build _ _); refine jy (ybuild rfl bu29) rfl rfl ?_) | (show Jo _ (.box 29 _); refine jbox (c := [.string ⟨#[]⟩, .slice none 0 0]) rfl rfl rfl (fun g hgT => ?_); refine jmem (m' := bkS g b0 .nil E) rfl ?_; have hg : Cx.may ⟨_, [], fun _ => False, w⟩ g := .inr hgT) | (show Jo _ (.slice _ _ _ _ _); refine jy (yslH (n := lA.length - 1) rfl rfl und24 sz42 rfl (by omega)) rfl rfl ?_)))
      all_goals exact post _ _ rfl
end Go.Proofs.YtkehggbmpdacpaaGreatDoor.Pg
namespace Go.Proofs.YtkehggbmpdacpaaGreatDoor.PFnAhead
open Go.Rx Go.RowKit Go.Proofs.YtkehggbmpdacpaaGreatDoorW.PrintWords
theorem laws_FnAhead.calls (a0 : ByteArray) (a1 : ByteArray) (ret_ : Bool) (w : World)  (h : ret_ = true ∧ a0.size ≤ 140737488351232 ∧ a1.size ≤ 140737488351232 ∧ Pg.Tab w) :
    Calls Tryz.prog 3 #[.string a0, .string a1] w fun e w' => e = .returned (.bool ret_) ∧ Below w.heap.size w w' := by
  obtain ⟨rfl, h0, h1, hT⟩ := h
  exact Pg.ahead_calls a0 a1 w hT h0 h1
end Go.Proofs.YtkehggbmpdacpaaGreatDoor.PFnAhead
