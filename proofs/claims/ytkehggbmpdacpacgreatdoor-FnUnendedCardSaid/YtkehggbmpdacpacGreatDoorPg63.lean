/- Pages: whether a page ends with an error. -/
import Derived.Test.YtkehggbmpdacpacGreatDoorPg62
set_option maxRecDepth 100000
set_option linter.unusedVariables false
set_option linter.unusedSimpArgs false
set_option linter.unusedSectionVars false
namespace Go.Proofs.YtkehggbmpdacpacGreatDoor.Pg
open Go.Rx hiding bt
open Go.RowKit Go.Proofs.YtkehggbmpdacpacGreatDoor.Dec0 Go.Proofs.YtkehggbmpdacpacGreatDoor.Lex0
theorem bo34 : bodyB Tryz.prog 28 = true := by kernel_rfl
theorem val_asc {s : T} (h : asc s) (it : Itm) : asc (valI s it) := by
  have hc : ∀ a b, asc (cut s a b) := asc_cut h
  unfold valI
  split
  · exact hc _ _
  · intro c hc'
    obtain ⟨p, _, hp⟩ := List.mem_flatMap.1 hc'
    exact hc _ _ c hp
theorem told_in {s : T} (h : asc s) (fr dv : Bool) : ∀ t ∈ told s fr dv, asc t.text ∧ t.text.length ≤ s.length := by
  intro t ht
  obtain ⟨it, hi, rfl⟩ := List.mem_map.1 ht
  exact ⟨val_asc h it, valI_len ((parse_in s fr dv).1 it hi)⟩
set_option maxHeartbeats 1000000 in
theorem errs_calls {X : Cx} {m : Mem} (hW : ∃ W, Bs W X ∧ Tab W) {s : ByteArray} (hs : s.size ≤ 1099511627776) (ha : asc s.data.toList) (he : Errs envT s.data.toList) : ∀ w, Cl X m w → Calls Tryz.prog 28 #[.string s, .bool false, .bool true] w fun e w' => e = .returned (.bool true) ∧ Cl X m w' := by
  intro w hw
  refine enterC 28 hw Tryz.func28 rfl rfl (vs := [.string s, .bool false, .bool true]) rfl ?_
  replace hW : ∃ W, Bs W (X.sub 28 w) ∧ Tab W := by obtain ⟨W, h1, h2⟩ := hW; exact ⟨W, h1.sub hw 28, h2⟩
  conv => arg 2; arg 2; whnf
  have hsz := Txt0.size_list s
  repeat' ((fail_if_success (show PJ _ (Code.wp _ (Code.seq (Code.region 4 _ _) _) _) _ _)); first | first | refine cseq ?_ | refine rtext ?_ | refine ctrue rfl ?_ | refine cfalse rfl ?_ | refine cskip ?_ | refine cret ?_ | refine tret ?_ | refine jnil ?_ | (first | refine jmv rfl rfl rfl ?_ | refine jas_ rfl rfl rfl ?_ | (show Jo _ (.binOp _ _ _ _ _); ((show Jo _ (.binOp .gtr _ _ _ _); refine jgtr rfl rfl rfl rfl (fun hq => ?_) (fun hq => ?_)))) | (show Jo _ (.call _); first | (show Jo _ (.call ⟨.builtin .len, _, #[9]⟩); refine jy (ylens rfl Lw.und9) rfl rfl ?_) | (show Jo _ (.call ⟨.value (.func 16), _, _⟩); refine jcall (ι := Row) (v := fun r' => r'.val (told s.data.toList false true).length) (m' := fun r' => r'.mem ((told s.data.toList false true).flatMap tiC) 51 ++ m) (fun r' => r'.ok 0 5 (told s.data.toList false true).length ((told s.data.toList false true).flatMap tiC)) bo16 rfl rfl rfl (parseB hW s.data.toList false true (by omega)) (fun r1 h1 => ?_)))))
  · exact ret1 rfl rfl rfl (fun w' hw' => ⟨rfl, hw.up hw'⟩)
  obtain ⟨k, l, p, t, hk1, hk2, hk3⟩ := he
  have hL : told s.data.toList false true = l ++ [errTi p t] := by unfold told; rw [parse_of hk1, hk2]
  have hin := told_in ha false true
  have hln : (told s.data.toList false true).length ≤ 1000000000 := by
    have h2 := (parse_in s.data.toList false true).2
    have h3 : (told s.data.toList false true).length = (parse envT s.data.toList false true).length := by unfold told; rw [List.length_map]
    rw [h3]
    omega
  rw [hL] at h1 hin hln ⊢
  have hlen : (l ++ [errTi p t]).length = l.length + 1 := by simp
  cases r1 with
  | nil => have := h1.1; omega
  | «at» g1 cap rr =>
    have hlastv : nth ((l ++ [errTi p t]).flatMap tiC ++ rr) (5 * l.length + 0) = some (.int .i64 0) := by
      rw [nth_eq, List.getElem?_append_left (by rw [tiCs_len, hlen]; omega)]
      exact tiC_at (t := errTi p t) (by simp) rfl
    have hshp : ∀ w', Has ((Row.at g1 cap rr).mem ((l ++ [errTi p t]).flatMap tiC) 51 ++ m) w' → Calls Tryz.prog 38 #[.string s, (Row.at g1 cap rr).val (l ++ [errTi p t]).length] w' fun e w'' => e = .returned (.bool true) ∧ Below w'.heap.size w' w'' := fun w' h =>
      shape_calls hs (tis_of (h.sub (List.sublist_append_left _ _)) h1) rfl hln hk3 (fun x hx => ⟨(hin x hx).1, by have := (hin x hx).2; omega⟩)
    rw [hlen] at hshp hln ⊢
    generalize hn : l.length = n at *
    repeat' (first | refine cseq ?_ | refine rtext ?_ | refine cret ?_ | refine jnil ?_ | (first | refine jmv rfl rfl rfl ?_ | (show Jo _ (.fieldAddr _ _ _); refine jy (yfield rfl fb42_0 rfl) rfl rfl ?_) | (show Jo _ (.load _ _); refine jy (yload (i := 0) rfl rfl hlastv one3) rfl rfl ?_) | refine jas_ rfl rfl rfl ?_ | (show Jo _ (.binOp _ _ _ _ _); first | (show Jo _ (.binOp .sub _ _ _ _); refine jy (ysub (c := (n : Int)) rfl rfl (by rw [i64_in (by omega) (by omega)]; omega)) rfl rfl ?_) | refine jy (yeql rfl rfl (by (exact decide_eq_true (by omega)))) rfl rfl ?_) | (show Jo _ (.pick _ _ _); refine jy (ypick1 rfl rfl) rfl rfl ?_) | (show Jo _ (.call _); first | (show Jo _ (.call ⟨.builtin .len, _, _⟩); refine jy (ylenl rfl und24) rfl rfl ?_) | (show Jo _ (.call ⟨.value (.func 38), _, _⟩); refine jcallq (v := .bool true) bo53 rfl rfl rfl (quietC fun w' hw' => hshp w' hw'.1) ?_)) | (show Jo _ (.indexAddr _ _ _); refine jy (yat (p' := ⟨g1, 5 * n, none⟩) rfl rfl und24 sz42 (by omega) (by omega) (by rw [add_lit]; congr 1; omega)) rfl rfl ?_)))
    exact ret1 rfl rfl rfl (fun w' hw' => ⟨rfl, (hw.up hw').less (List.sublist_append_right _ _)⟩)
end Go.Proofs.YtkehggbmpdacpacGreatDoor.Pg
