/- FnMixed: its walk. -/
import Derived.Test.YtkehggbmpdacpabGreatDoorLwDl
import Derived.Test.YtkehggbmpdacpabGreatDoorLwAl
import Derived.Test.YtkehggbmpdacpabGreatDoorPg63
import Derived.Test.YtkehggbmpdacpabGreatDoorKp15
set_option maxRecDepth 100000
set_option linter.unusedVariables false
set_option linter.unusedSimpArgs false
set_option linter.unusedSectionVars false
namespace Go.Rx
open Go.RowKit
theorem jlit1w {X : Cx} {P : Program} {f : Fr} {m : Mem} {ty : TypeId} {pos : String} {af : Array Edge} {ops : Array Oper} {Q : Exit → Act → World → Prop} {K : Act → World → Prop} {rest : List Oper} {gd : Option (Nat × Bool)} {dd : Nat} {x : Operand} {t e size bytes : Nat} {c : List Value} {v : Value} (hx : evF f x = some v) (hc : v.cells = c.toArray) (hl : c.length = size) (hg : growB P t e size bytes = true) (h0 : Nat.blt 0 size = true) (h1 : Nat.ble size 1000 = true) (hw : wantedF ops f ⟨some dd, .buildSlice t 1 #[(0, x)], ty, pos, af, gd⟩ = some true) (hd : Nat.blt dd X.n = true)
    (h : ∀ g, X.w0.heap.size ≤ g → J false X P ops Q K rest ((dd, .slice (some ⟨g, 0, none⟩) 1 1) :: f) ((g, c, e) :: m)) : J false X P ops Q K (⟨some dd, .buildSlice t 1 #[(0, x)], ty, pos, af, gd⟩ :: rest) f m := by
  refine jeff (ι := Nat) (v := fun g => .slice (some ⟨g, 0, none⟩) 1 1) (m' := fun g => (g, c, e) :: m) (fun g => X.w0.heap.size ≤ g) hw hd (fun a w st => ⟨w.heap.size, w.alloc (.cells c.toArray e), .inl ?_, st.has.push _ _, st.evo.push _, st.evo.size⟩) (fun g hg => h g hg)
  obtain ⟨hu, inf, z, q1, q2, q3, q4, q5⟩ := growB_eq hg
  have h0' : 0 < size := by simpa using h0
  have h1' := Nat.le_of_ble_eq_true h1
  have hfill : Instr.fill (fun i => some (i * size, size)) ((Array.range (1 * size)).map (z.cells[· % z.cells.size]!)) [(0, v)] = some c.toArray := by
    have hv : v.cells.size = size := by rw [hc]; simpa using hl
    simp only [Instr.fill]
    rw [if_neg (by simp [hv])]
    congr 1
    simp only [Nat.zero_mul, Nat.zero_add]
    rw [hc, ← Array.foldl_toList, Array.toList_zipIdx]
    rw [foldl_set c 0 _ (by simp [hl])]
    simp
  simp only [execOp, Instr.buildSlice, List.map_toArray, List.map_cons, List.map_nil, st.agr.eval hx, Sem.run_bind, run_underlying hu, Result.andThen_ok, sizeOf, typeInfo, program, Sem.run, q1, Sem.run_pure, q3]
  rw [if_neg (by omega), if_neg (by omega)]
  simp only [zeroValue, typeInfo, program, Sem.run_bind, Sem.run, q1, q2, Sem.run_pure, Result.andThen_ok, hfill]
  simp [newRow, run_newObj]
end Go.Rx
namespace Go.Proofs.YtkehggbmpdacpabGreatDoor.Pg
open Go.Rx hiding bt
open Go.RowKit Go.Proofs.YtkehggbmpdacpabGreatDoor.Dec0 Go.Proofs.YtkehggbmpdacpabGreatDoor.Lex0
theorem grT : growB Tryz.prog 22 9 1 16 = true := by kernel_rfl
theorem named1 {X : Cx} (g : Nat) (key : ByteArray) (hs : key.size ≤ 2147483647) : ∀ w, Cl X [(g, [.string key], .c 9)] w → Calls Tryz.prog 36 #[.slice (some ⟨g, 0, none⟩) 1 1] w fun e w' => ∃ b, e = .returned (.bool b) ∧ Cl X [(g, [.string key], .c 9)] w' ∧ (b = true → Lw.BareF key) := fun w hw => by
  have ha : RowAt nof w (.slice (some ⟨g, 0, none⟩) 1 1) 1 (Lw.strs [key]) := ⟨_, _, rfl, fun j u hj => ⟨⟨g, 0, none⟩, rfl, fun h => h, cell_row (hw.1.blk _ (List.mem_cons_self ..)) (by rw [Nat.zero_add]; exact hj)⟩⟩
  refine (Lw.allNamed_calls [key] _ w ha (by simp) (fun x hx => by rw [List.mem_singleton.1 hx]; exact hs)).mono fun e w' ⟨b, h1, h2, h3⟩ => ⟨b, h1, hw.below h2, fun h => (h3 h).2 key (List.mem_singleton.2 rfl)⟩
set_option maxHeartbeats 4000000 in
theorem mixed_calls (md : Bool) (name key value : ByteArray) (first_ : Bool) (w : World) (hT : Tab w) (hs0 : name.size ≤ 140737488351232) (hs1 : key.size ≤ 140737488351232) (hs2 : value.size ≤ 140737488351232) :
    Calls Tryz.prog 10 #[.bool md, .string name, .string key, .string value, .bool first_] w fun e w' => e = .returned (.bool true) ∧ Below w.heap.size w w' := by
  refine enter (fun _ => False) 71 [] Tryz.func10 rfl rfl rfl (vs := [.bool md, .string name, .string key, .string value, .bool first_]) (Has.nil _) ?_
  conv => arg 2; arg 2; whnf
  have hW : ∃ W, Bs W ⟨71, [], fun _ => False, w⟩ ∧ Tab W := ⟨w, ⟨Below.refl _ _, fun k h => h.elim⟩, hT⟩
  have post : ∀ (f : Fr) (m : Mem), Rx.look f 10 = some (.bool true) → PJ ⟨71, [], fun _ => False, w⟩ (bodyPost Tryz.prog Tryz.f10 (fun e w' => e = .returned (.bool true) ∧ Below w.heap.size w w') .ret) f m := fun f m hf =>
    ret1 rfl rfl hf (fun w' hw' => ⟨rfl, hw'.2.below (fun k _ h => h) (Nat.le_refl _)⟩)
  have herrA : Lw.NameF name → Lw.BareF key → Lw.QuoteF value → ∀ s : ByteArray, s.data.toList = lf md ++ 32 :: (name.data.toList ++ 32 :: 34 :: (value.data.toList ++ 34 :: 32 :: (key.data.toList ++ 61 :: 34 :: (value.data.toList ++ 34 :: 32 :: rd md)))) → asc s.data.toList ∧ Errs envT s.data.toList := by
    intro hb hk hv s hs
    have hna := hb.1.asc
    have hva := hv.1.asc
    have hka := hk.1.asc
    rw [hs]
    refine ⟨?_, err_mixedA ea_env tra_env md hb.1 hk.1 hv.1 ?_⟩
    all_goals repeat' (first | exact asc_lf _ | exact asc_rd _ | assumption | refine asc_app ?_ ?_ | refine asc_cons (by decide) ?_)
  have herrB : Lw.NameF name → Lw.BareF key → Lw.QuoteF value → ∀ s : ByteArray, s.data.toList = lf md ++ 32 :: (name.data.toList ++ 32 :: (key.data.toList ++ 61 :: 34 :: (value.data.toList ++ 34 :: 32 :: 34 :: (value.data.toList ++ 34 :: 32 :: rd md)))) → asc s.data.toList ∧ Errs envT s.data.toList := by
    intro hb hk hv s hs
    have hna := hb.1.asc
    have hva := hv.1.asc
    have hka := hk.1.asc
    rw [hs]
    refine ⟨?_, err_mixedB ea_env tra_env md hb.1 hk.1 hv.1 ?_⟩
    all_goals repeat' (first | exact asc_lf _ | exact asc_rd _ | assumption | refine asc_app ?_ ?_ | refine asc_cons (by decide) ?_)
  cases first_
  · repeat' (first | (show Jo _ (.call ⟨.value (.func 37), _, _⟩); have herr := herrA hb hbk hv; refine jcall0 (v := .bool true) _ bo34 rfl rfl rfl (errs_calls hW (by simp only [ByteArray.size_append, ba_lf_sz, ba_rd_sz, bz1, bz2, bz3]; omega) (herr _ (by simp [Txt0.app_list, ba_list])).1 (herr _ (by simp [Txt0.app_list, ba_list])).2) ?_) | first | refine cseq ?_ | refine rtext ?_ | refine ctrue rfl ?_ | refine cfalse rfl ?_ | refine cskip ?_ | refine cret ?_ | refine tret ?_ | refine jnil ?_ | (first | refine js rfl rfl ?_ | refine jmv rfl rfl rfl ?_ | refine jas_ rfl rfl rfl ?_ | (show Jo _ (.binOp _ _ _ _ _); first | (show Jo _ (.binOp .gtr _ _ _ _); refine jgtr rfl rfl rfl rfl (fun hq => ?_) (fun hq => ?_)) | (show Jo _ (.binOp .add 9 _ _ _); refine jy (ysadd rfl rfl (by simp only [ByteArray.size_append, ba_lf_sz, ba_rd_sz, bz1, bz2, bz3]; omega) rfl) rfl rfl ?_)) | (show Jo _ (.pick _ _ _); first | refine jy (ypick1 rfl rfl) rfl rfl ?_ | refine jy (ypick0 rfl rfl) rfl rfl ?_) | refine jy (ynot rfl rfl) rfl rfl ?_ | (show Jo _ (.call _); first | (show Jo _ (.call ⟨.builtin .len, _, #[9]⟩); refine jy (ylens rfl Lw.und9) rfl rfl ?_) | (show Jo _ (.call ⟨.value (.func 15), _, _⟩); refine jcall (ι := Bool) (v := fun b => .bool b) (m' := fun _ => _) (fun b => b = true → Lw.NameF _) Lw.boNm rfl rfl rfl (Lw.named_in (by omega)) (fun b hk => ?_); refine jcases (fun hb => ?_) (fun hb => ?_); try (replace hb := hk hb; have hna := hb.1.asc; have hns := hb.2)) | (show Jo _ (.call ⟨.value (.func 16), _, _⟩); refine jcall (ι := Bool) (v := fun b => .bool b) (m' := fun _ => _) (fun b => b = true → Lw.QuoteF _) Lw.boQt rfl rfl rfl (Lw.quotable_in (by omega)) (fun b hk => ?_); refine jcases (fun hv => ?_) (fun hv => ?_); try (replace hv := hk hv; have hva := hv.1.asc; have hvs := hv.2.1)) | (show Jo _ (.call ⟨.value (.func 35), _, _⟩); refine jcallq Lw.boDl rfl rfl rfl Lw.delim_in ?_) | (show Jo _ (.call ⟨.value (.func 36), _, _⟩); refine jcall (ι := Bool) (v := fun b => .bool b) (m' := fun _ => [(gk, [.string key], .c 9)]) (fun b => b = true → Lw.BareF key) Lw.boAl rfl rfl rfl (named1 gk key (by omega)) (fun b hk => ?_); refine jcases (fun hbk => ?_) (fun hbk => ?_); try (replace hbk := hk hbk; have hks := hbk.2.2))) | (show Jo _ (.extract _ _); refine jy (yextractL rfl rfl) rfl rfl ?_) | (show Jo _ (.buildSlice _ 1 _); refine jlit1w (c := [.string key]) rfl rfl rfl grT rfl rfl rfl rfl (fun gk hgk => ?_))))
    all_goals exact post _ _ rfl
  · repeat' (first | (show Jo _ (.call ⟨.value (.func 37), _, _⟩); have herr := herrB hb hbk hv; refine jcall0 (v := .bool true) _ bo34 rfl rfl rfl (errs_calls hW (by simp only [ByteArray.size_append, ba_lf_sz, ba_rd_sz, bz1, bz2, bz3]; omega) (herr _ (by simp [Txt0.app_list, ba_list])).1 (herr _ (by simp [Txt0.app_list, ba_list])).2) ?_) | first | refine cseq ?_ | refine rtext ?_ | refine ctrue rfl ?_ | refine cfalse rfl ?_ | refine cskip ?_ | refine cret ?_ | refine tret ?_ | refine jnil ?_ | (first | refine js rfl rfl ?_ | refine jmv rfl rfl rfl ?_ | refine jas_ rfl rfl rfl ?_ | (show Jo _ (.binOp _ _ _ _ _); first | (show Jo _ (.binOp .gtr _ _ _ _); refine jgtr rfl rfl rfl rfl (fun hq => ?_) (fun hq => ?_)) | (show Jo _ (.binOp .add 9 _ _ _); refine jy (ysadd rfl rfl (by simp only [ByteArray.size_append, ba_lf_sz, ba_rd_sz, bz1, bz2, bz3]; omega) rfl) rfl rfl ?_)) | (show Jo _ (.pick _ _ _); first | refine jy (ypick1 rfl rfl) rfl rfl ?_ | refine jy (ypick0 rfl rfl) rfl rfl ?_) | refine jy (ynot rfl rfl) rfl rfl ?_ | (show Jo _ (.call _); first | (show Jo _ (.call ⟨.builtin .len, _, #[9]⟩); refine jy (ylens rfl Lw.und9) rfl rfl ?_) | (show Jo _ (.call ⟨.value (.func 15), _, _⟩); refine jcall (ι := Bool) (v := fun b => .bool b) (m' := fun _ => _) (fun b => b = true → Lw.NameF _) Lw.boNm rfl rfl rfl (Lw.named_in (by omega)) (fun b hk => ?_); refine jcases (fun hb => ?_) (fun hb => ?_); try (replace hb := hk hb; have hna := hb.1.asc; have hns := hb.2)) | (show Jo _ (.call ⟨.value (.func 16), _, _⟩); refine jcall (ι := Bool) (v := fun b => .bool b) (m' := fun _ => _) (fun b => b = true → Lw.QuoteF _) Lw.boQt rfl rfl rfl (Lw.quotable_in (by omega)) (fun b hk => ?_); refine jcases (fun hv => ?_) (fun hv => ?_); try (replace hv := hk hv; have hva := hv.1.asc; have hvs := hv.2.1)) | (show Jo _ (.call ⟨.value (.func 35), _, _⟩); refine jcallq Lw.boDl rfl rfl rfl Lw.delim_in ?_) | (show Jo _ (.call ⟨.value (.func 36), _, _⟩); refine jcall (ι := Bool) (v := fun b => .bool b) (m' := fun _ => [(gk, [.string key], .c 9)]) (fun b => b = true → Lw.BareF key) Lw.boAl rfl rfl rfl (named1 gk key (by omega)) (fun b hk => ?_); refine jcases (fun hbk => ?_) (fun hbk => ?_); try (replace hbk := hk hbk; have hks := hbk.2.2))) | (show Jo _ (.extract _ _); refine jy (yextractL rfl rfl) rfl rfl ?_) | (show Jo _ (.buildSlice _ 1 _); refine jlit1w (c := [.string key]) rfl rfl rfl grT rfl rfl rfl rfl (fun gk hgk => ?_))))
    all_goals exact post _ _ rfl
end Go.Proofs.YtkehggbmpdacpabGreatDoor.Pg
namespace Go.Proofs.YtkehggbmpdacpabGreatDoor.PFnMixed
open Go.Rx Go.RowKit Go.Proofs.YtkehggbmpdacpabGreatDoorW.PrintWords
theorem laws_FnMixed.calls (a0 : Bool) (a1 : ByteArray) (a2 : ByteArray) (a3 : ByteArray) (a4 : Bool) (ret_ : Bool) (w : World)  (h : ret_ = true ∧ a1.size ≤ 140737488351232 ∧ a2.size ≤ 140737488351232 ∧ a3.size ≤ 140737488351232 ∧ Pg.Tab w) :
    Calls Tryz.prog 10 #[.bool a0, .string a1, .string a2, .string a3, .bool a4] w fun e w' => e = .returned (.bool ret_) ∧ Below w.heap.size w w' := by
  obtain ⟨rfl, h1, h2, h3, hT⟩ := h
  exact Pg.mixed_calls a0 a1 a2 a3 a4 w hT h1 h2 h3
end Go.Proofs.YtkehggbmpdacpabGreatDoor.PFnMixed
