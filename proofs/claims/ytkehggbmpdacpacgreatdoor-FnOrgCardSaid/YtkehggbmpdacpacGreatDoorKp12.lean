/- The page laws: texts that all of them use, joined (part 12): Pg37, Pg38, Pg39, Lex6, Pg40, Pg41, ShelfBuf, Pg42, Pg43. -/
import Derived.Shelf.LaysM
import Derived.Shelf.Bytes.Bytes
import Derived.Shelf.Bytes.WriteKept
import Derived.Test.YtkehggbmpdacpacGreatDoorProg
import Derived.Test.YtkehggbmpdacpacGreatDoorKp10
import Derived.Test.YtkehggbmpdacpacGreatDoorKp11
set_option maxRecDepth 100000
set_option linter.unusedVariables false
set_option linter.unusedSimpArgs false
set_option linter.unusedSectionVars false
namespace Go.Proofs.YtkehggbmpdacpacGreatDoor.Pg
open Go.Rx hiding bt
open Go.RowKit Go.Proofs.YtkehggbmpdacpacGreatDoor.Dec0 Go.Proofs.YtkehggbmpdacpacGreatDoor.Lex0
theorem bo123 : bodyB Tryz.prog 96 = true := by kernel_rfl
theorem fb83_1 : fieldB Tryz.prog 65 1 = some 1 := by kernel_rfl
theorem gr133 : growB Tryz.prog 105 109 1 8 = true := by kernel_rfl
theorem ze137 : ((Tryz.prog.info? 109).bind (·.zero)).map (·.cells) = some [Value.pointer none].toArray := by kernel_rfl
theorem ze3 : ((Tryz.prog.info? 3).bind (·.zero)).map (·.cells) = some [Value.int .i64 0].toArray := by kernel_rfl
theorem bu142 (g k k' : Nat) : Tryz.prog.built 114 [(0, .pointer (some ⟨g, 0, none⟩)), (2, fnV k), (3, fnV k')] = some [.pointer (some ⟨g, 0, none⟩), .bool false, fnV k, fnV k'].toArray := by kernel_rfl
theorem bu136 (g gh gk n c n' c' : Nat) : Tryz.prog.built 108 [(0, .pointer (some ⟨g, 0, none⟩)), (2, .slice (some ⟨gh, 0, none⟩) n c), (3, .slice (some ⟨gk, 0, none⟩) n' c')] = some [.pointer (some ⟨g, 0, none⟩), .bool false, .slice (some ⟨gh, 0, none⟩) n c, .slice (some ⟨gk, 0, none⟩) n' c'].toArray := by kernel_rfl
theorem one_ptr {a : Option Addr} : ∀ u ∈ [Value.pointer a], u.oneCell' = true := fun u hu => by
  rw [List.mem_singleton.1 hu]
  rfl
@[reducible] def hdS (H : Hd) (gS : Nat) : Hd := { H with gS := gS }
set_option maxHeartbeats 1000000 in
theorem sects_calls {X : Cx} {H : Hd} {c : List Value} {E : Mem} (hnd : nth c 8 = some (.bool H.nd)) : ∀ w, Cl X ((H.gL, c, .c 84) :: E) w → Calls Tryz.prog 96 #[pL H] w fun e w' => ∃ (gS : Nat) (S : Sec), e = .returned (.pointer (some ⟨gS, 0, none⟩)) ∧ Cl X (secM (hdS H gS) S ++ (H.gL, c, .c 84) :: E) w' ∧ SecMay X (hdS H gS) S ∧ S.dv = !H.nd ∧ S.all = false ∧ S.s1 = false ∧ S.s2 = false ∧ S.kc = (bif S.dv then 2 else 1) := by
  intro w hw
  refine enterC 34 hw Tryz.func96 rfl rfl (vs := [pL H]) rfl ?_
  conv => arg 2; arg 2; whnf
  rcases (Bool.eq_false_or_eq_true H.nd).symm with hv | hv
  · rw [hv] at hnd ⊢
    repeat' (first | refine cseq ?_ | refine rtext ?_ | refine ctrue rfl ?_ | refine cret ?_ | refine jnil ?_ | (first | refine jmv rfl rfl rfl ?_ | refine jy (ynil rfl) rfl rfl ?_ | (show Jo _ (.fieldAddr _ _ _); refine jy (yfield rfl (by first | exact fb110_7 | exact fb83_1) rfl) rfl rfl ?_) | (show Jo _ (.load _ _); refine jy (yload (i := 3) rfl rfl (by exact hnd) one4) rfl rfl ?_) | refine jas_ rfl rfl rfl ?_ | refine jy (ynot rfl rfl) rfl rfl ?_ | (show Jo _ (.call _); first | (show Jo (some 30) (.call ⟨.builtin .len, _, _⟩); refine jy (ylenl rfl und133) rfl rfl ?_) | (show Jo (some 13) (.call ⟨.builtin .append, _, _⟩); refine jappendIn (i := 2) (size := 1) (n := 0) (k := 1) (cap := 2) (c := [.pointer none, .pointer none]) (news := [.pointer (some ⟨g1, 0, none⟩)]) rfl rfl rfl (src_blk (i := 0) 0 rfl (add_zero _) (fun j u hj => by rw [Nat.zero_add]; exact hj)) rfl one_ptr (.inr hgh) gr133 (by omega) (by simp) (c' := [.pointer (some ⟨g1, 0, none⟩), .pointer none]) rfl rfl ?_) | (show Jo (some 26) (.call ⟨.builtin .append, _, _⟩); refine jappendIn (i := 4) (size := 1) (n := 1) (k := 1) (cap := 2) (c := [.pointer (some ⟨g1, 0, none⟩), .pointer none]) (news := [.pointer (some ⟨g2, 0, none⟩)]) rfl rfl rfl (src_blk (i := 0) 0 rfl (add_zero _) (fun j u hj => by rw [Nat.zero_add]; exact hj)) rfl one_ptr (.inr hgh) gr133 (by omega) (by simp) (c' := [.pointer (some ⟨g1, 0, none⟩), .pointer (some ⟨g2, 0, none⟩)]) rfl rfl ?_)) | (show Jo (some 6) (.makeSlice _ _ _); refine jmakeC (l := 0) (n := 2) [.pointer none] rfl rfl rfl rfl (by omega) gr133 ze137 rfl (by omega) (by omega) rfl (fun gh hgh => ?_)) | (show Jo (some 8) (.build _ _); refine jy (ybuild rfl (bu142 H.gL 107 110)) rfl rfl ?_) | (show Jo (some 21) (.build _ _); refine jy (ybuild rfl (bu142 H.gL 115 116)) rfl rfl ?_) | (show Jo (some 9) (.box _ _); refine jbox rfl rfl rfl (fun g1 hg1 => ?_)) | (show Jo (some 22) (.box _ _); refine jbox rfl rfl rfl (fun g2 hg2 => ?_)) | (show Jo (some 33) (.box _ _); refine jbox rfl rfl rfl (fun gS hgS => ?_)) | (show Jo (some 12) (.buildSlice _ _ _); refine jlitN (n := 1) (vs := [.pointer (some ⟨g1, 0, none⟩)]) rfl rfl rfl rfl gr133 rfl rfl rfl rfl (fun gl1 hT => ?_)) | (show Jo (some 25) (.buildSlice _ _ _); refine jlitN (n := 1) (vs := [.pointer (some ⟨g2, 0, none⟩)]) rfl rfl rfl rfl gr133 rfl rfl rfl rfl (fun gl2 hT => ?_)) | (show Jo (some 31) (.makeSlice _ _ _); refine jmakeC (l := 2) (n := 2) [.int .i64 0] rfl rfl rfl rfl (by omega) gr134 ze3 rfl (by omega) (by omega) rfl (fun gk hgk => ?_)) | (show Jo (some 32) (.build _ _); refine jy (ybuild rfl (bu136 H.gL gh gk 2 2 2 2)) rfl rfl ?_)))
    refine ret1 rfl rfl rfl (fun w' hw' => ⟨gS, ⟨gh, g1, g2, gk, 2, 2, [.int .i64 0, .int .i64 0], true, false, false, false⟩, rfl, ?_, ⟨Cx.may_up hw (.inr hgS), Cx.may_up hw (.inr hg1), Cx.may_up hw (.inr hg2), Cx.may_up hw (.inr hgk), rfl, (show _ ≤ maxLen by simp only [maxLen]; omega)⟩, rfl, rfl, rfl, rfl, rfl⟩)
    exact (hw.up hw').pickA (A := [_, _, _, _, _, _, _]) (B := [_, _, _, _, _]) [0, 6, 5, 1, 3] (by decide) rfl
  · rw [hv] at hnd ⊢
    repeat' (first | refine cseq ?_ | refine rtext ?_ | refine cfalse rfl ?_ | refine cskip ?_ | refine cret ?_ | refine jnil ?_ | (first | refine jmv rfl rfl rfl ?_ | refine jy (ynil rfl) rfl rfl ?_ | (show Jo _ (.fieldAddr _ _ _); refine jy (yfield rfl (by first | exact fb110_7 | exact fb83_1) rfl) rfl rfl ?_) | (show Jo _ (.load _ _); refine jy (yload (i := 3) rfl rfl (by exact hnd) one4) rfl rfl ?_) | refine jas_ rfl rfl rfl ?_ | refine jy (ynot rfl rfl) rfl rfl ?_ | (show Jo _ (.call _); first | (show Jo (some 30) (.call ⟨.builtin .len, _, _⟩); refine jy (ylenl rfl und133) rfl rfl ?_) | (show Jo (some 13) (.call ⟨.builtin .append, _, _⟩); refine jappendIn (i := 2) (size := 1) (n := 0) (k := 1) (cap := 2) (c := [.pointer none, .pointer none]) (news := [.pointer (some ⟨g1, 0, none⟩)]) rfl rfl rfl (src_blk (i := 0) 0 rfl (add_zero _) (fun j u hj => by rw [Nat.zero_add]; exact hj)) rfl one_ptr (.inr hgh) gr133 (by omega) (by simp) (c' := [.pointer (some ⟨g1, 0, none⟩), .pointer none]) rfl rfl ?_)) | (show Jo (some 6) (.makeSlice _ _ _); refine jmakeC (l := 0) (n := 2) [.pointer none] rfl rfl rfl rfl (by omega) gr133 ze137 rfl (by omega) (by omega) rfl (fun gh hgh => ?_)) | (show Jo (some 8) (.build _ _); refine jy (ybuild rfl (bu142 H.gL 107 110)) rfl rfl ?_) | (show Jo (some 9) (.box _ _); refine jbox rfl rfl rfl (fun g1 hg1 => ?_)) | (show Jo (some 33) (.box _ _); refine jbox rfl rfl rfl (fun gS hgS => ?_)) | (show Jo (some 12) (.buildSlice _ _ _); refine jlitN (n := 1) (vs := [.pointer (some ⟨g1, 0, none⟩)]) rfl rfl rfl rfl gr133 rfl rfl rfl rfl (fun gl1 hT => ?_)) | (show Jo (some 31) (.makeSlice _ _ _); refine jmakeC (l := 1) (n := 1) [.int .i64 0] rfl rfl rfl rfl (by omega) gr134 ze3 rfl (by omega) (by omega) rfl (fun gk hgk => ?_)) | (show Jo (some 32) (.build _ _); refine jy (ybuild rfl (bu136 H.gL gh gk 1 2 1 1)) rfl rfl ?_)))
    refine ret1 rfl rfl rfl (fun w' hw' => ⟨gS, ⟨gh, g1, g1, gk, 1, 1, [.int .i64 0], false, false, false, false⟩, rfl, ?_, ⟨Cx.may_up hw (.inr hgS), Cx.may_up hw (.inr hg1), Cx.may_up hw (.inr hg1), Cx.may_up hw (.inr hgk), rfl, (show _ ≤ maxLen by simp only [maxLen]; omega)⟩, rfl, rfl, rfl, rfl, rfl⟩)
    exact (hw.up hw').pickA (A := [_, _, _, _, _]) (B := [_, _, _, _]) [0, 4, 3, 1] (by decide) rfl
theorem bo105 : bodyB Tryz.prog 77 = true := by kernel_rfl
theorem agg83 : aggB Tryz.prog 65 2 = true := by kernel_rfl
theorem gr76 : growB Tryz.prog 58 70 7 72 = true := by kernel_rfl
def zItm : List Value := [.int .i64 0, .nilIface, .int .i64 0, .int .i64 0, .slice none 0 0, .int .u8 0, .bool false]
theorem ze88 : ((Tryz.prog.info? 70).bind (·.zero)).map (·.cells) = some zItm.toArray := by kernel_rfl
theorem bu108 (g : Nat) : Tryz.prog.built 82 [(0, .int .i64 8), (1, .int .i64 9), (7, .map (some g))] = some [.int .i64 8, .int .i64 9, .bool false, .string ⟨#[]⟩, .int .i64 0, .int .i64 0, .int .i64 0, .map (some g)].toArray := by kernel_rfl
theorem bu110 (gI n c k gd gM gR : Nat) (a b : Bool) (m : Nat) : Tryz.prog.built 84 [(0, .slice (some ⟨gI, 0, none⟩) n c), (1, fnV k), (8, .slice (some ⟨gd, 0, none⟩) 11 11), (7, .agg #[.bool a, .bool b]), (10, .agg #[.int .i64 8, .int .i64 9, .bool false, .string ⟨#[]⟩, .int .i64 0, .int .i64 0, .int .i64 0, .map (some gM)]), (11, .slice (some ⟨gR, 0, none⟩) 0 5)] = some [.slice (some ⟨gI, 0, none⟩) n c, fnV k, .nilFunc, .int .i64 0, .int .i64 0, .int .i64 0, .pointer none, .bool a, .bool b, .slice (some ⟨gd, 0, none⟩) 11 11, .bool false, .int .i64 8, .int .i64 9, .bool false, .string ⟨#[]⟩, .int .i64 0, .int .i64 0, .int .i64 0, .map (some gM), .slice (some ⟨gR, 0, none⟩) 0 5, .nilIface].toArray := by kernel_rfl
theorem si105 : (Tryz.prog.info? 79).map (·.size) = some 1 := by kernel_rfl
@[reducible] def hdN (H0 : Hd) (gL gM gS : Nat) : Hd := { H0 with gL := gL, gM := gM, gS := gS }
def NewR (X : Cx) (H0 : Hd) (e : Ending) (w' : World) : Prop := ∃ (H : Hd) (q : RS) (S : Sec) (gd : Nat), e = .returned (pL H) ∧ Cl X (cM H lx0 .nilFunc 0 gd q (secM H S) []) w' ∧ iB H = iB H0 ∧ H.s = H0.s ∧ H.st0 = H0.st0 ∧ H.nd = H0.nd ∧ Ok X H ∧ QOk X q ∧ q.n = 0 ∧ q.ics = [] ∧ SecMay X H S ∧ SecOk H.s lx0 S ∧ S.dv = !H.nd ∧ S.all = false ∧ S.s1 = false ∧ S.s2 = false
set_option maxHeartbeats 4000000 in
theorem new_calls {X : Cx} {H0 : Hd} (k0 : Nat) (hst : H0.st0 = fnV k0) (hW : ∃ W, Bs W X ∧ Tab W) (hsz : H0.s.length ≤ H0.cap) (hbig : H0.s.length ≤ 35184372088832) {E : Mem} : ∀ w, Cl X (iB H0 :: E) w → Calls Tryz.prog 77 #[.slice (some ⟨H0.gI, 0, none⟩) H0.s.length H0.cap, fnV k0, .agg #[.bool H0.nf, .bool H0.nd]] w (NewR X H0) := by
  intro w hw
  replace hw : Cl X [iB H0] w := hw.less (List.Sublist.cons_cons _ (List.nil_sublist _))
  refine enterC 23 hw Tryz.func77 rfl rfl (vs := [.slice (some ⟨H0.gI, 0, none⟩) H0.s.length H0.cap, fnV k0, .agg #[.bool H0.nf, .bool H0.nd]]) rfl ?_
  have hsec : ∀ (gL gM : Nat) (c : List Value) (R : Mem), nth c 8 = some (.bool H0.nd) → ∀ w', Cl (X.sub 23 w) ((gL, c, .c 84) :: R) w' → Calls Tryz.prog 96 #[.pointer (some ⟨gL, 0, none⟩)] w' fun e w'' => ∃ i : Nat × Sec, e = .returned (.pointer (some ⟨i.1, 0, none⟩)) ∧ Cl (X.sub 23 w) ((gL, c, .c 84) :: (secM (hdN H0 gL gM i.1) i.2 ++ R)) w'' ∧ (SecMay (X.sub 23 w) (hdN H0 gL gM i.1) i.2 ∧ i.2.dv = !H0.nd ∧ i.2.all = false ∧ i.2.s1 = false ∧ i.2.s2 = false ∧ i.2.kc = (bif i.2.dv then 2 else 1)) := fun gL gM c R hc w' hw' =>
    (sects_calls (H := hdN H0 gL gM 0) hc w' hw').mono fun e w'' ⟨gS, S, h1, h2, h3⟩ => ⟨(gS, S), h1, h2.perm List.perm_middle, h3⟩
  conv => arg 2; arg 2; whnf
  repeat' (first | first | (show PJ _ (Code.wp _ _ _) _ _; first | refine cseq ?_ | refine rtext ?_ | refine cret ?_ | (show PJ _ (Code.wp _ (Code.region 1 _ true) _) _ _; refine rany [(gC, [.bool H0.nf, .bool H0.nd], .c 65), iB H0] mixed ?_)) | refine jnil ?_ | (first | refine jmv rfl rfl rfl ?_ | refine jy (ynil rfl) rfl rfl ?_ | (show Jo _ (.fieldAddr _ _ _); refine jy (yfield rfl fb110_6 rfl) rfl rfl ?_) | refine jas_ rfl rfl rfl ?_ | (show Jo _ (.store _ _ _); refine jstore (i := 0) rfl rfl rfl rfl rfl si105 (.inr hgL) ?_) | (show Jo _ (.call _); first | (show Jo (some 10) (.call _); refine jcall (ι := Nat) _ bo122 rfl rfl rfl (fun w' hw' => fresh122 _ _ w' hw') (fun gd hgd => ?_)) | (show Jo (some 19) (.call _); refine jcall (ι := Nat × Sec) (vs := [.pointer (some ⟨gL, 0, none⟩)]) _ bo123 rfl rfl rfl (hsec gL gM _ _ rfl) (fun gs hgs => ?_))) | (show Jo (some 5) (.box _ _); refine jbox rfl rfl rfl (fun gC hgC => ?_)) | (show Jo (some 16) (.box _ _); refine jbox rfl rfl rfl (fun gL hgL => ?_)) | (show Jo (some 12) (.makeMap _ _); refine jmakeMap rfl (fun gM hgM => ?_)) | (show Jo (some 13) (.makeSlice _ _ _); refine jmakeC (l := 0) (n := 5) zItm rfl rfl rfl rfl (by omega) gr76 ze88 rfl (by omega) (by omega) rfl (fun gR hgR => ?_))) | first | (show JT _ _ _ _ _ _ [] _ _; refine jtnil ?_) | (first | (show JTo _ (.move _); refine jty (ymove rfl) rfl rfl ?_) | (show JTo _ (.load _ _); refine jty (yloads (i := 0) rfl rfl agg83) rfl rfl ?_) | (show JTo _ (.assign _); refine jty (yassign rfl) rfl rfl ?_) | (show JTo (some 14) (.build _ _); refine jty (ybuild rfl (bu108 gM)) rfl rfl ?_) | (show JTo (some 15) (.build _ _); refine jty (ybuild rfl (bu110 H0.gI H0.s.length H0.cap k0 gd gM gR H0.nf H0.nd 0)) rfl rfl ?_)) | first | (show PJ _ (WKeep _ _ _) _ _; refine jas (fun _ h => h.less (by repeat (first | exact List.Sublist.refl _ | refine List.Sublist.cons _ ?_))) ?_) | (show PJ _ (WIf _ _ _) _ _; refine jaw ?_) | (show PJ _ (WAny _ _ _ _ _ _ _) _ _; first | refine jaq (g' := 7) (D := []) [0, 1, 3] rfl (fun _ h => h.less (by repeat ((exact List.Sublist.refl _)))) (by kernel_rfl) (by kernel_rfl) rfl (fun _ d _ _ _ h => by cases d <;> exact h) rfl ?_ | refine ja3 (g' := 6) (D := [0, 1, 3]) 2 4 5 rfl rfl rfl rfl (by kernel_rfl) rfl rfl rfl ?_ ?_ ?_ | refine ja2 (g' := 5) (D := [0, 1, 3, 2]) 4 5 rfl rfl rfl (by kernel_rfl) rfl rfl ?_ ?_ | refine jaq (g' := 4) (D := [0, 1, 3, 2, 4]) [6] rfl (fun _ h => h.less (by repeat (first | exact List.Sublist.refl _ | refine List.Sublist.cons _ ?_))) (by kernel_rfl) (by kernel_rfl) rfl (fun _ d _ _ _ h => by cases d <;> exact h) rfl ?_ | refine ja1 (g' := 3) (D := [0, 1, 3, 2, 4, 6]) 5 rfl rfl (by kernel_rfl) rfl ?_ | refine jaq (g' := 2) (D := [0, 1, 3, 2, 4, 6, 5]) [7] rfl (fun _ h => h.less (by repeat (first | exact List.Sublist.refl _ | refine List.Sublist.cons _ ?_))) (by kernel_rfl) (by kernel_rfl) rfl (fun _ d _ _ _ h => by cases d <;> exact h) rfl ?_ | refine ja1 (g' := 1) (D := [0, 1, 3, 2, 4, 6, 5, 7]) 8 rfl rfl (by kernel_rfl) rfl ?_ | refine jaq (g' := 0) (D := [0, 1, 3, 2, 4, 6, 5, 7, 8]) [9] rfl (fun _ h => h.less (by repeat (first | exact List.Sublist.refl _ | refine List.Sublist.cons _ ?_))) (by kernel_rfl) (by kernel_rfl) rfl (fun _ d _ _ _ h => by cases d <;> exact h) rfl ?_ | refine ja1 (g' := 4) (D := [0, 1, 3, 2, 5]) 4 rfl rfl (by kernel_rfl) rfl ?_ | refine jaq (g' := 2) (D := [0, 1, 3, 2, 5, 4]) [6, 7] rfl (fun _ h => h.less (by repeat (first | exact List.Sublist.refl _ | refine List.Sublist.cons _ ?_))) (by kernel_rfl) (by kernel_rfl) rfl (fun _ d _ _ _ h => by cases d <;> exact h) rfl ?_ | refine ja1 (g' := 1) (D := [0, 1, 3, 2, 5, 4, 6, 7]) 8 rfl rfl (by kernel_rfl) rfl ?_ | refine jaq (g' := 0) (D := [0, 1, 3, 2, 5, 4, 6, 7, 8]) [9] rfl (fun _ h => h.less (by repeat (first | exact List.Sublist.refl _ | refine List.Sublist.cons _ ?_))) (by kernel_rfl) (by kernel_rfl) rfl (fun _ d _ _ _ h => by cases d <;> exact h) rfl ?_ | refine jaq (g' := 5) (D := [0, 1, 3, 4]) [6] rfl (fun _ h => h.less (by repeat (first | exact List.Sublist.refl _ | refine List.Sublist.cons _ ?_))) (by kernel_rfl) (by kernel_rfl) rfl (fun _ d _ _ _ h => by cases d <;> exact h) rfl ?_ | refine ja2 (g' := 4) (D := [0, 1, 3, 4, 6]) 2 5 rfl rfl rfl (by kernel_rfl) rfl rfl ?_ ?_ | refine ja1 (g' := 3) (D := [0, 1, 3, 4, 6, 2]) 5 rfl rfl (by kernel_rfl) rfl ?_ | refine jaq (g' := 2) (D := [0, 1, 3, 4, 6, 2, 5]) [7] rfl (fun _ h => h.less (by repeat (first | exact List.Sublist.refl _ | refine List.Sublist.cons _ ?_))) (by kernel_rfl) (by kernel_rfl) rfl (fun _ d _ _ _ h => by cases d <;> exact h) rfl ?_ | refine ja1 (g' := 1) (D := [0, 1, 3, 4, 6, 2, 5, 7]) 8 rfl rfl (by kernel_rfl) rfl ?_ | refine jaq (g' := 0) (D := [0, 1, 3, 4, 6, 2, 5, 7, 8]) [9] rfl (fun _ h => h.less (by repeat (first | exact List.Sublist.refl _ | refine List.Sublist.cons _ ?_))) (by kernel_rfl) (by kernel_rfl) rfl (fun _ d _ _ _ h => by cases d <;> exact h) rfl ?_ | refine ja1 (g' := 3) (D := [0, 1, 3, 4, 6, 5]) 2 rfl rfl (by kernel_rfl) rfl ?_ | refine jaq (g' := 2) (D := [0, 1, 3, 4, 6, 5, 2]) [7] rfl (fun _ h => h.less (by repeat (first | exact List.Sublist.refl _ | refine List.Sublist.cons _ ?_))) (by kernel_rfl) (by kernel_rfl) rfl (fun _ d _ _ _ h => by cases d <;> exact h) rfl ?_ | refine ja1 (g' := 1) (D := [0, 1, 3, 4, 6, 5, 2, 7]) 8 rfl rfl (by kernel_rfl) rfl ?_ | refine jaq (g' := 0) (D := [0, 1, 3, 4, 6, 5, 2, 7, 8]) [9] rfl (fun _ h => h.less (by repeat (first | exact List.Sublist.refl _ | refine List.Sublist.cons _ ?_))) (by kernel_rfl) (by kernel_rfl) rfl (fun _ d _ _ _ h => by cases d <;> exact h) rfl ?_ | refine ja2 (g' := 5) (D := [0, 1, 3, 5]) 2 4 rfl rfl rfl (by kernel_rfl) rfl rfl ?_ ?_ | refine ja1 (g' := 4) (D := [0, 1, 3, 5, 2]) 4 rfl rfl (by kernel_rfl) rfl ?_ | refine jaq (g' := 2) (D := [0, 1, 3, 5, 2, 4]) [6, 7] rfl (fun _ h => h.less (by repeat (first | exact List.Sublist.refl _ | refine List.Sublist.cons _ ?_))) (by kernel_rfl) (by kernel_rfl) rfl (fun _ d _ _ _ h => by cases d <;> exact h) rfl ?_ | refine ja1 (g' := 1) (D := [0, 1, 3, 5, 2, 4, 6, 7]) 8 rfl rfl (by kernel_rfl) rfl ?_ | refine jaq (g' := 0) (D := [0, 1, 3, 5, 2, 4, 6, 7, 8]) [9] rfl (fun _ h => h.less (by repeat (first | exact List.Sublist.refl _ | refine List.Sublist.cons _ ?_))) (by kernel_rfl) (by kernel_rfl) rfl (fun _ d _ _ _ h => by cases d <;> exact h) rfl ?_ | refine jaq (g' := 4) (D := [0, 1, 3, 5, 4]) [6] rfl (fun _ h => h.less (by repeat (first | exact List.Sublist.refl _ | refine List.Sublist.cons _ ?_))) (by kernel_rfl) (by kernel_rfl) rfl (fun _ d _ _ _ h => by cases d <;> exact h) rfl ?_ | refine ja1 (g' := 3) (D := [0, 1, 3, 5, 4, 6]) 2 rfl rfl (by kernel_rfl) rfl ?_ | refine jaq (g' := 2) (D := [0, 1, 3, 5, 4, 6, 2]) [7] rfl (fun _ h => h.less (by repeat (first | exact List.Sublist.refl _ | refine List.Sublist.cons _ ?_))) (by kernel_rfl) (by kernel_rfl) rfl (fun _ d _ _ _ h => by cases d <;> exact h) rfl ?_ | refine ja1 (g' := 1) (D := [0, 1, 3, 5, 4, 6, 2, 7]) 8 rfl rfl (by kernel_rfl) rfl ?_ | refine jaq (g' := 0) (D := [0, 1, 3, 5, 4, 6, 2, 7, 8]) [9] rfl (fun _ h => h.less (by repeat (first | exact List.Sublist.refl _ | refine List.Sublist.cons _ ?_))) (by kernel_rfl) (by kernel_rfl) rfl (fun _ d _ _ _ h => by cases d <;> exact h) rfl ?_ | refine jadone rfl (by kernel_rfl) ?_))
  all_goals
    obtain ⟨gS, S⟩ := gs
    obtain ⟨hs1, hs2, hs3, hs4, hs5, hs6⟩ := hgs
    refine ret1 rfl rfl rfl (fun w' hw' => ⟨hdN H0 gL gM gS, ⟨gR, 0, 5, [], (List.replicate 5 zItm).flatten⟩, S, gd, rfl, ?_, rfl, rfl, rfl, rfl, ⟨hW, hsz, hbig, Cx.may_up hw (.inr hgL), Cx.may_up hw (.inr hgM)⟩, ⟨⟨Nat.zero_le _, rfl, Nat.zero_le _, (show 5 ≤ maxLen by simp only [maxLen]; omega), rfl⟩, Cx.may_up hw (.inr hgR)⟩, rfl, rfl, ⟨Cx.may_up hw hs1.s, Cx.may_up hw hs1.m1, Cx.may_up hw hs1.m2, Cx.may_up hw hs1.my, hs1.kl, hs1.kx⟩, ⟨(fun h => by rw [hs3] at h; cases h), (fun h => by rw [hs4] at h; cases h), (fun _ h => by rw [hs5] at h; cases h), hs6, hs1.kl⟩, hs2, hs3, hs4, hs5⟩)
    have h0 := (hw.up hw').perm (List.Perm.cons _ List.perm_append_comm)
    have e1 : lB (hdN H0 gL gM gS) (lsOf lx0 .nilFunc 0 (fV gd (divr false)) (.slice (some ⟨gR, 0, none⟩) 0 5)) = (gL, [.slice (some ⟨H0.gI, 0, none⟩) H0.s.length H0.cap, fnV k0, .nilFunc, .int .i64 0, .int .i64 0, .int .i64 0, .pointer (some ⟨gS, 0, none⟩), .bool H0.nf, .bool H0.nd, fV gd (divr false), .bool false, .int .i64 8, .int .i64 9, .bool false, .string ⟨#[]⟩, .int .i64 0, .int .i64 0, .int .i64 0, .map (some gM), .slice (some ⟨gR, 0, none⟩) 0 5, .nilIface], .c 84) := by
      rw [← hst]
      rfl
    show Cl X ([lB (hdN H0 gL gM gS) (lsOf lx0 .nilFunc 0 (fV gd (divr false)) (.slice (some ⟨gR, 0, none⟩) 0 5)), _, _, _, _] ++ (secM (hdN H0 gL gM gS) S ++ [])) w'
    rw [List.append_nil, e1]
    first | exact (h0.pickA (A := [_, _, _, _, _, _]) (B := [_, _, _, _, _]) [0, 5, 1, 2, 3] (by decide) rfl) | exact (h0.pickA (A := [_, _, _, _, _, _]) (B := [_, _, _, _, _]) [0, 5, 1, 3, 2] (by decide) rfl) | exact (h0.pickA (A := [_, _, _, _, _, _]) (B := [_, _, _, _, _]) [0, 5, 2, 1, 3] (by decide) rfl) | exact (h0.pickA (A := [_, _, _, _, _, _]) (B := [_, _, _, _, _]) [0, 5, 2, 3, 1] (by decide) rfl) | exact (h0.pickA (A := [_, _, _, _, _, _]) (B := [_, _, _, _, _]) [0, 5, 3, 1, 2] (by decide) rfl) | exact (h0.pickA (A := [_, _, _, _, _, _]) (B := [_, _, _, _, _]) [0, 5, 3, 2, 1] (by decide) rfl)
section
variable {X : Cx} {P : Program} {f : Fr} {m : Mem} {ty : TypeId} {pos : String} {af : Array Edge} {gd : Option (Nat × Bool)} {d : Option Tmp}
def ifB (P : Program) (t : TypeId) : Bool := match P.underlying t with
  | some (.interface _) => true
  | _ => false
def nilI : Value → Option Bool
  | .nilIface => some true
  | .iface _ _ => some false
  | _ => none
theorem run_eqI {t : TypeId} {a : Value} {b : Bool} (ht : ifB P t = true) (ha : nilI a = some b) (d : Nat) (w : World) : (Op.equalIn (d + 1) t a .nilIface).run P w = .ok b w := by
  unfold ifB at ht
  split at ht
  · rename_i hu
    unfold nilI at ha
    split at ha
    · cases ha; simp [Op.equalIn, run_underlying hu]
    · cases ha; simp [Op.equalIn, run_underlying hu]
    · cases ha
  · cases ht
theorem yin {x : Operand} {a : Value} {b : Bool} {t t' : TypeId} (hx : evF f x = some a) (ht : ifB P t = true) (ha : nilI a = some b) :
    Yl X P f m ⟨d, .binOp .neq t x (.const .nilIface) t', ty, pos, af, gd⟩ (.bool (!b)) := .of fun w1 w s => by
  have h1 := run_eqI (P := P) ht ha 9999 w
  have hy : w1.eval (.const .nilIface) = .nilIface := rfl
  cases a <;> (cases ha) <;> simp [execOp, s.agr.eval hx, hy, binOp, eqGuard, Op.equal, Op.maxDepth, h1]
end
theorem if79 : ifB Tryz.prog 61 = true := by kernel_rfl
theorem bo69 : bodyB Tryz.prog 46 = true := by kernel_rfl
theorem bo55 : bodyB Tryz.prog 39 = true := by kernel_rfl
theorem fb83_0 : fieldB Tryz.prog 65 0 = some 0 := by kernel_rfl
theorem one79 : oneB Tryz.prog 61 = true := by kernel_rfl
structure PsdOk (X : Cx) (H0 : Hd) (l : List Itm) (p : Hd × RI) : Prop where
  ib : iB p.1 = iB H0
  hs : p.1.s = H0.s
  it : p.2.x.items = l
  st : StOk X p.1 p.2.x p.2.q p.2.G
def psM (p : Hd × RI) : Mem := cM p.1 p.2.x (stV p.2.u) p.2.W p.2.gd p.2.q (secM p.1 p.2.S) p.2.G
set_option maxHeartbeats 1000000 in
theorem parse69_calls {X : Cx} {H0 : Hd} (st0 : Lex0.St) (h0 : st0 = if H0.nf then .main else .intro) (hst : H0.st0 = fnV (stF st0)) (hW : ∃ W, Bs W X ∧ Tab W) (hsz : H0.s.length ≤ H0.cap) (hbig : H0.s.length ≤ 4294967296) {E : Mem} : ∀ w, Cl X (iB H0 :: E) w →
    Calls Tryz.prog 46 #[.slice (some ⟨H0.gI, 0, none⟩) H0.s.length H0.cap, .agg #[.bool H0.nf, .bool H0.nd], fnV (stF st0)] w fun e w' => ∃ p : Hd × RI, e = .returned (.tuple #[pL p.1, .nilIface]) ∧ Cl X (psM p) w' ∧ PsdOk X H0 (parse envT H0.s (!H0.nf) (!H0.nd)) p := by
  intro w hw
  refine enterC 16 hw Tryz.func46 rfl rfl (vs := [.slice (some ⟨H0.gI, 0, none⟩) H0.s.length H0.cap, .agg #[.bool H0.nf, .bool H0.nd], fnV (stF st0)]) rfl ?_
  have hWs : ∃ W, Bs W (X.sub 16 w) ∧ Tab W := by
    obtain ⟨W, h1, h2⟩ := hW
    exact ⟨W, h1.sub hw 16, h2⟩
  have hnew : ∀ (R : Nat × List Value × Bk) (w' : World), Cl (X.sub 16 w) (R :: iB H0 :: E) w' → Calls Tryz.prog 77 #[.slice (some ⟨H0.gI, 0, none⟩) H0.s.length H0.cap, fnV (stF st0), .agg #[.bool H0.nf, .bool H0.nd]] w' fun e w'' => ∃ n : (Hd × RS) × (Sec × Nat), e = .returned (pL n.1.1) ∧ Cl (X.sub 16 w) (cM n.1.1 lx0 .nilFunc 0 n.2.2 n.1.2 (secM n.1.1 n.2.1) []) w'' ∧ (iB n.1.1 = iB H0 ∧ n.1.1.s = H0.s ∧ n.1.1.st0 = H0.st0 ∧ n.1.1.nd = H0.nd ∧ Ok (X.sub 16 w) n.1.1 ∧ QOk (X.sub 16 w) n.1.2 ∧ n.1.2.n = 0 ∧ n.1.2.ics = [] ∧ SecMay (X.sub 16 w) n.1.1 n.2.1 ∧ SecOk n.1.1.s lx0 n.2.1 ∧ n.2.1.dv = !n.1.1.nd ∧ n.2.1.all = false ∧ n.2.1.s1 = false ∧ n.2.1.s2 = false) := fun R w' hw' =>
    (new_calls (stF st0) hst hWs hsz (by omega) w' (hw'.perm (List.Perm.swap _ _ _))).mono fun e w'' ⟨H, q, S, gd, h1, h2, h3⟩ => ⟨((H, q), (S, gd)), h1, h2, h3⟩
  have hrun : ∀ (n : (Hd × RS) × (Sec × Nat)), (iB n.1.1 = iB H0 ∧ n.1.1.s = H0.s ∧ n.1.1.st0 = H0.st0 ∧ n.1.1.nd = H0.nd ∧ Ok (X.sub 16 w) n.1.1 ∧ QOk (X.sub 16 w) n.1.2 ∧ n.1.2.n = 0 ∧ n.1.2.ics = [] ∧ SecMay (X.sub 16 w) n.1.1 n.2.1 ∧ SecOk n.1.1.s lx0 n.2.1 ∧ n.2.1.dv = !n.1.1.nd ∧ n.2.1.all = false ∧ n.2.1.s1 = false ∧ n.2.1.s2 = false) → ∀ w', Cl (X.sub 16 w) (cM n.1.1 lx0 .nilFunc 0 n.2.2 n.1.2 (secM n.1.1 n.2.1) []) w' → Calls Tryz.prog 78 #[pL n.1.1] w' fun e w'' => ∃ i : RI, e = .returned (pL n.1.1) ∧ Cl (X.sub 16 w) (psM (n.1.1, i)) w'' ∧ (StOk (X.sub 16 w) n.1.1 i.x i.q i.G ∧ i.x.items = parse envT H0.s (!H0.nf) (!H0.nd)) := by
    rintro ⟨⟨H, q⟩, S, gd⟩ ⟨a1, a2, a3, a4, a5, a6, a7, a8, a9, a10, a11, a12, a13, a14⟩ w' hw'
    dsimp only at *
    have hp := parsesN' env_al H.s (!H0.nf) (!H0.nd)
    have he : (if (!H0.nf) = true then Lex0.St.intro else .main) = st0 := by rw [h0]; cases H0.nf <;> rfl
    rw [he] at hp
    have hg : Lex0.Good envT H.s st0 lx0 := by
      have := good0 envT H.s (!H0.nf)
      rw [he] at this
      exact this
    have hj : jo (some st0) = false := by rw [h0]; cases H0.nf <;> rfl
    have hsl : H.s.length ≤ 4294967296 := by rw [a2]; exact hbig
    have hdv : S.dv = !H0.nd := by rw [a11, a4]
    have hz : lx0.items.length = 0 := rfl
    refine (run_calls a5 hsl a9 (st0 := st0) (by rw [a3, hst]; rfl) hj .nilFunc gd (parse envT H.s (!H0.nf) (!H0.nd)) (4 * H.s.length + 3) hg ⟨a6, a7, by rw [a8]; exact ICS.nil, Nat.zero_le _, Nat.le_refl _⟩ ⟨a10, fun _ => ⟨a12, a13, a14⟩⟩ (by rw [hdv]; exact hp) (by omega) (by show 0 + _ ≤ _; omega) (by show 0 + _ ≤ _; omega) (Nat.zero_le _) w' hw').mono fun e w'' ⟨i, h1, h2, h3, h4, h5⟩ => ⟨i, h1, h2, h3, by rw [h4, a2]⟩
  conv => arg 2; arg 2; whnf
  repeat' (first | first | refine cseq ?_ | refine rtext ?_ | refine cret ?_ | refine jnil ?_ | (first | refine jmv rfl rfl rfl ?_ | (show Jo _ (.load _ _); refine jy (yloads (i := 0) rfl rfl agg83) rfl rfl ?_) | refine jas_ rfl rfl rfl ?_ | (show Jo _ (.call _); first | (show Jo (some 12) (.call _); refine jcall (ι := (Hd × RS) × (Sec × Nat)) (vs := [.slice (some ⟨H0.gI, 0, none⟩) H0.s.length H0.cap, fnV (stF st0), .agg #[.bool H0.nf, .bool H0.nd]]) _ bo105 rfl rfl rfl (hnew _) (fun n hn => ?_)) | (show Jo (some 14) (.call _); refine jcall (ι := RI) (vs := [pL n.1.1]) _ bo106 rfl rfl rfl (hrun n hn) (fun i hi => ?_))) | (show Jo (some 4) (.box _ _); refine jbox rfl rfl rfl (fun gC hgC => ?_))))
  exact ret2 rfl rfl rfl rfl (fun w' hw' => ⟨(n.1.1, i), rfl, hw.up hw', ⟨hn.1, hn.2.1, hi.2, StOk.up hw hi.1⟩⟩)
set_option maxHeartbeats 1000000 in
theorem parse55_calls {X : Cx} {H1 : Hd} (hW : ∃ W, Bs W X ∧ Tab W) (hsz : H1.s.length ≤ H1.cap) (hbig : H1.s.length ≤ 4294967296) {E : Mem} : ∀ w, Cl X (iB H1 :: E) w →
    Calls Tryz.prog 39 #[.slice (some ⟨H1.gI, 0, none⟩) H1.s.length H1.cap, .agg #[.bool H1.nf, .bool H1.nd]] w fun e w' => ∃ p : Hd × RI, e = .returned (.tuple #[p.2.q.val, .nilIface]) ∧ Cl X (psM p) w' ∧ PsdOk X H1 (parse envT H1.s (!H1.nf) (!H1.nd)) p := by
  intro w hw
  refine enterC 29 hw Tryz.func39 rfl rfl (vs := [.slice (some ⟨H1.gI, 0, none⟩) H1.s.length H1.cap, .agg #[.bool H1.nf, .bool H1.nd]]) rfl ?_
  have hWs : ∃ W, Bs W (X.sub 29 w) ∧ Tab W := by
    obtain ⟨W, h1, h2⟩ := hW
    exact ⟨W, h1.sub hw 29, h2⟩
  obtain ⟨st0, h0⟩ : ∃ st0 : Lex0.St, st0 = if H1.nf then .main else .intro := ⟨_, rfl⟩
  obtain ⟨H0, hH⟩ : ∃ H0 : Hd, H0 = { H1 with st0 := fnV (stF st0) } := ⟨_, rfl⟩
  have hp69 : ∀ (R : Nat × List Value × Bk) (w' : World), Cl (X.sub 29 w) (R :: iB H1 :: E) w' → Calls Tryz.prog 46 #[.slice (some ⟨H1.gI, 0, none⟩) H1.s.length H1.cap, .agg #[.bool H1.nf, .bool H1.nd], fnV (stF st0)] w' fun e w'' => ∃ p : Hd × RI, e = .returned (.tuple #[pL p.1, .nilIface]) ∧ Cl (X.sub 29 w) (psM p) w'' ∧ PsdOk (X.sub 29 w) H0 (parse envT H1.s (!H1.nf) (!H1.nd)) p := fun R w' hw' => by
    subst hH
    exact parse69_calls (H0 := { H1 with st0 := fnV (stF st0) }) st0 h0 rfl hWs hsz hbig w' (hw'.perm (List.Perm.swap _ _ _))
  have hfin : ∀ {p : Hd × RI}, PsdOk (X.sub 29 w) H0 (parse envT H1.s (!H1.nf) (!H1.nd)) p → PsdOk X H1 (parse envT H1.s (!H1.nf) (!H1.nd)) p := fun ⟨h1, h2, h3, h4⟩ => ⟨by rw [h1, hH]; rfl, by rw [h2, hH], h3, StOk.up hw h4⟩
  conv => arg 2; arg 2; whnf
  rcases (Bool.eq_false_or_eq_true H1.nf).symm with hv | hv
  · have hs0 : st0 = .intro := by rw [h0, hv]; rfl
    subst hs0
    repeat' (first | refine cfalse (congrArg (fun b => some (Value.bool b)) hv) ?_ | first | (show PJ _ (Code.wp _ _ _) _ _; first | refine cseq ?_ | refine rtext ?_ | refine cfalse rfl ?_ | refine cskip ?_ | refine cret ?_ | refine rquiet mixed (by kernel_rfl) ?_) | refine jnil ?_ | (first | refine jmv rfl rfl rfl ?_ | refine jy (ynil rfl) rfl rfl ?_ | (show Jo _ (.fieldAddr _ _ _); refine jy (yfield rfl (by first | exact fb83_0 | exact fb110_11 | exact fb110_12) rfl) rfl rfl ?_) | (show Jo _ (.load _ _); first | refine jy (yload (i := 0) rfl rfl rfl one4) rfl rfl ?_ | refine jy (yloads (i := 0) rfl rfl agg83) rfl rfl ?_) | refine jas_ rfl rfl rfl ?_ | (show Jo _ (.binOp _ _ _ _ _); ((show Jo (some 19) (.binOp .neq _ _ _ _); refine jy (yin rfl if79 rfl) rfl rfl ?_))) | (show Jo _ (.call _); ((show Jo (some 15) (.call _); refine jcall (ι := Hd × RI) (vs := [.slice (some ⟨H1.gI, 0, none⟩) H1.s.length H1.cap, .agg #[.bool H1.nf, .bool H1.nd], fnV 44]) _ bo69 rfl rfl rfl (hp69 _) (fun p hp => ?_)))) | (show Jo _ (.extract _ _); refine jy (yextractL rfl rfl) rfl rfl ?_) | (show Jo (some 3) (.box _ _); refine jbox rfl rfl rfl (fun gC hgC => ?_))))
    exact ret2 rfl rfl rfl rfl (fun w' hw' => ⟨p, rfl, hw.up hw', hfin hp⟩)
  · have hs0 : st0 = .main := by rw [h0, hv]; rfl
    subst hs0
    repeat' (first | refine ctrue (congrArg (fun b => some (Value.bool b)) hv) ?_ | first | (show PJ _ (Code.wp _ _ _) _ _; first | refine cseq ?_ | refine rtext ?_ | refine cfalse rfl ?_ | refine cskip ?_ | refine cret ?_ | refine rquiet mixed (by kernel_rfl) ?_) | refine jnil ?_ | (first | refine jmv rfl rfl rfl ?_ | refine jy (ynil rfl) rfl rfl ?_ | (show Jo _ (.fieldAddr _ _ _); refine jy (yfield rfl (by first | exact fb83_0 | exact fb110_11 | exact fb110_12) rfl) rfl rfl ?_) | (show Jo _ (.load _ _); first | refine jy (yload (i := 0) rfl rfl rfl one4) rfl rfl ?_ | refine jy (yloads (i := 0) rfl rfl agg83) rfl rfl ?_) | refine jas_ rfl rfl rfl ?_ | (show Jo _ (.binOp _ _ _ _ _); ((show Jo (some 19) (.binOp .neq _ _ _ _); refine jy (yin rfl if79 rfl) rfl rfl ?_))) | (show Jo _ (.call _); ((show Jo (some 15) (.call _); refine jcall (ι := Hd × RI) (vs := [.slice (some ⟨H1.gI, 0, none⟩) H1.s.length H1.cap, .agg #[.bool H1.nf, .bool H1.nd], fnV 45]) _ bo69 rfl rfl rfl (hp69 _) (fun p hp => ?_)))) | (show Jo _ (.extract _ _); refine jy (yextractL rfl rfl) rfl rfl ?_) | (show Jo (some 3) (.box _ _); refine jbox rfl rfl rfl (fun gC hgC => ?_))))
    exact ret2 rfl rfl rfl rfl (fun w' hw' => ⟨p, rfl, hw.up hw', hfin hp⟩)
end Go.Proofs.YtkehggbmpdacpacGreatDoor.Pg
namespace Go.Proofs.YtkehggbmpdacpacGreatDoor.Lex0
open Go.Proofs.YtkehggbmpdacpacGreatDoor.Dec0 Go.Proofs.YtkehggbmpdacpacGreatDoor.Txt0
def isSpT (t : T) : Bool := t.all fun c => isSp c.toNat
def bitsT (ty : Nat) (nw : Bool) : Nat :=
  (if ty = 18 ∨ ty = 17 then 1 else 0) + (if ty = 17 then 2 else 0) + (if nw then 4 else 0) + (if ty = 13 then 8 else 0) + (if ty = 14 then 16 else 0) + (if ty = 8 ∨ ty = 10 then 32 else 0) + (if ty = 9 ∨ ty = 11 then 64 else 0) + (if ty = 12 then 128 else 0) + (if ty = 15 then 256 else 0) + (if ty = 16 then 512 else 0) + (if ty = 10 ∨ ty = 11 then 1024 else 0) + (if 3 ≤ ty ∧ ty ≤ 6 then 2048 else 0) + (if ty = 0 ∨ ty = 1 then 4096 else 0) + (if ty = 1 then 8192 else 0) + (if ty = 0 then 16384 else 0)
structure Ti where
  ty : Nat
  pos : Nat
  text : T
  failed : Bool
  is : Nat
deriving DecidableEq
def posI (it : Itm) : Nat := match it.segs with
  | [] => it.low
  | p :: _ => p.1
def valI (s : T) (it : Itm) : T := if it.segs = [] then cut s it.low it.high else it.segs.flatMap fun p => cut s p.1 p.2
def toldI (E : Env) (s : T) (it : Itm) : Ti := ⟨it.ty, posI it, valI s it, it.err, bitsT it.ty (!(E.tr (valI s it)).isEmpty)⟩
def tiOf (ty pos : Nat) (t : T) : Ti := ⟨ty, pos, t, false, bitsT ty (!isSpT t)⟩
def asc (t : T) : Prop := ∀ c ∈ t, c.toNat < 128
structure TrA (E : Env) : Prop where
  asc : ∀ t, asc t → (E.tr t).isEmpty = isSpT t
theorem asc_app {a b : T} (h : asc a) (k : asc b) : asc (a ++ b) := fun c hc => by
  rcases List.mem_append.1 hc with h' | h'
  · exact h c h'
  · exact k c h'
theorem toldI_of {E : Env} (hT : TrA E) {s : T} {it : Itm} {t : T} {p : Nat} (h1 : valI s it = t) (h2 : asc t) (h3 : it.err = false) (h4 : posI it = p) : toldI E s it = tiOf it.ty p t := by
  unfold toldI tiOf
  rw [h1, h3, h4, hT.asc t h2]
theorem told_mk {E : Env} (hT : TrA E) {s : T} {ty a b : Nat} {t : T} (h : cut s a b = t) (ha : asc t) : toldI E s (mk ty a b) = tiOf ty a t := toldI_of hT (h : _ = t) ha rfl rfl
structure Book where
  s : T
  l : List Ti
def Book.as_ (b : Book) (ty : Nat) (text told : T) : Book := ⟨b.s ++ text, b.l ++ [tiOf ty b.s.length told]⟩
def Book.put (b : Book) (ty : Nat) (text : T) : Book := b.as_ ty text text
def Book.pass (b : Book) (text : T) : Book := ⟨b.s ++ text, b.l⟩
structure Ctl where
  md : Bool
  inl : Bool
  name : ByteArray
  closing : Nat
  step : Nat
  par : Nat
  op : List (ByteArray × Bool)
  org : Bool
  chk : Bool
def ctl (x : Lx) : Ctl := ⟨x.md, x.inl, x.name, x.closing, x.step, x.par, x.op, x.org, x.chk⟩
structure Sim (E : Env) (s : T) (b : Book) (r : T) (c : Ctl) (x : Lx) : Prop where
  e : s = b.s ++ r
  p : x.pos = b.s.length
  st : x.start = x.pos
  l : x.items.map (toldI E s) = b.l
  c : ctl x = c
theorem Sim.drop {E : Env} {s : T} {b : Book} {r : T} {c : Ctl} {x : Lx} (h : Sim E s b r c x) : s.drop x.pos = r := by rw [h.e, h.p, List.drop_left]
def Go (E : Env) (s : T) (dv : Bool) (st : St) (b : Book) (r : T) (c : Ctl) (st' : St) (b' : Book) (r' : T) (c' : Ctl) : Prop := ∀ x, Sim E s b r c x → ∃ x', Steps E s dv st x st' x' ∧ Sim E s b' r' c' x'
theorem Go.refl {E : Env} {s : T} {dv : Bool} {st : St} {b : Book} {r : T} {c : Ctl} : Go E s dv st b r c st b r c := fun x h => ⟨x, .refl, h⟩
theorem Go.trans {E : Env} {s : T} {dv : Bool} {st1 st2 st3 : St} {b1 b2 b3 : Book} {r1 r2 r3 : T} {c1 c2 c3 : Ctl} (h : Go E s dv st1 b1 r1 c1 st2 b2 r2 c2) (k : Go E s dv st2 b2 r2 c2 st3 b3 r3 c3) : Go E s dv st1 b1 r1 c1 st3 b3 r3 c3 := fun x hx => by
  obtain ⟨y, h1, h2⟩ := h x hx
  obtain ⟨z, h3, h4⟩ := k y h2
  exact ⟨z, h1.trans h3, h4⟩
section
variable {E : Env} {s : T} {dv : Bool} {b : Book} {c : Ctl}
theorem Sim.put {r' u t : T} {ty : Nat} {c' : Ctl} {x y : Lx} (hx : Sim E s b (u ++ r') c x) (hp : y.pos = x.pos + u.length) (hst : y.start = y.pos) (it : Itm) (hi : y.items = x.items ++ [it]) (ht : toldI E s it = tiOf ty x.pos t) (hc : ctl y = c') : Sim E s (b.as_ ty u t) r' c' y := by
  obtain ⟨h1, h2, h3, h4, h5⟩ := hx
  refine ⟨?_, ?_, hst, ?_, hc⟩
  · show s = (b.s ++ u) ++ r'; rw [h1, List.append_assoc]
  · show _ = (b.s ++ u).length; rw [hp, h2, List.length_append]
  · rw [hi, List.map_append, h4, List.map_cons, List.map_nil, ht, h2]; rfl
theorem Sim.pass {r' u : T} {c' : Ctl} {x y : Lx} (hx : Sim E s b (u ++ r') c x) (hp : y.pos = x.pos + u.length) (hst : y.start = y.pos) (hi : y.items = x.items) (hc : ctl y = c') : Sim E s (b.pass u) r' c' y := by
  obtain ⟨h1, h2, h3, h4, h5⟩ := hx
  refine ⟨?_, ?_, hst, ?_, hc⟩
  · show s = (b.s ++ u) ++ r'; rw [h1, List.append_assoc]
  · show _ = (b.s ++ u).length; rw [hp, h2, List.length_append]
  · rw [hi]; exact h4
theorem isN_lt {c : UInt8} (h : isN c = true) : c.toNat < 128 := by
  unfold isN at h
  simp only [Bool.or_eq_true, beq_iff_eq] at h
  rcases h with (h | h) | h
  · exact isW_lt h
  · omega
  · omega
structure NameT (w : T) : Prop where
  ne : w ≠ []
  h0 : ∀ c, w.head? = some c → isW c = true
  all : ∀ c ∈ w, isN c = true
theorem NameT.asc {w : T} (h : NameT w) : asc w := fun c hc => isN_lt (h.all c hc)
structure ValT (v : T) : Prop where
  asc : asc v
  q : ∀ c ∈ v, c ≠ 92 ∧ c ≠ 10
  h0 : v.head? ≠ some 34
theorem isP_lt {c : UInt8} (h : isP c = true) : c.toNat < 128 := by
  unfold isP at h
  simp only [Bool.or_eq_true, beq_iff_eq] at h
  rcases h with (h | h) | h
  · exact isW_lt h
  · omega
  · omega
structure BareT (w : T) : Prop where
  ne : w ≠ []
  h0 : ∀ c, w.head? = some c → isW c = true
  all : ∀ c ∈ w, isP c = true
theorem BareT.asc {w : T} (h : BareT w) : asc w := fun c hc => isP_lt (h.all c hc)
end
def c0 : Ctl := ⟨false, false, ⟨#[]⟩, 0, 0, 0, [], false, false⟩
end Go.Proofs.YtkehggbmpdacpacGreatDoor.Lex0
namespace Go.Proofs.YtkehggbmpdacpacGreatDoor.Pg
open Go.Rx hiding bt
open Go.RowKit Go.Proofs.YtkehggbmpdacpacGreatDoor.Dec0 Go.Proofs.YtkehggbmpdacpacGreatDoor.Lex0
theorem one85' : oneB Tryz.prog 67 = true := by kernel_rfl
theorem fb88_0' : fieldB Tryz.prog 70 0 = some 0 := by kernel_rfl
theorem fb88_2' : fieldB Tryz.prog 70 2 = some 2 := by kernel_rfl
theorem fb88_4' : fieldB Tryz.prog 70 4 = some 4 := by kernel_rfl
def IC (ty : Nat) (cs : List Value) : Prop := ∃ er lo hi sg fb st, cs = [.int .i64 (ty : Nat), er, lo, hi, sg, fb, st] ∧ ∀ v ∈ [er, lo, hi, sg, fb, st], v.oneCell' = true
theorem bq73 : bodyB Tryz.prog 50 = true := by kernel_rfl
theorem q73_calls {w : World} {ty : Nat} {cs : List Value} (hc : IC ty cs) : Calls Tryz.prog 50 #[.agg cs.toArray] w fun e w' => e = .returned (.bool (decide (ty = 17))) ∧ Below w.heap.size w w' := by
  obtain ⟨er, lo, hi, sg, fb, st, rfl, h1⟩ := hc
  refine enter (fun _ => False) 6 [] Tryz.func50 rfl rfl rfl (vs := [.agg #[.int .i64 (ty : Nat), er, lo, hi, sg, fb, st]]) (Has.nil _) ?_
  conv => arg 2; arg 2; whnf
  by_cases h : ty = 17
  · repeat' (first | refine cseq ?_ | refine rtext ?_ | refine cret ?_ | refine jnil ?_ | (first | (show Jo _ (.fieldAddr _ _ _); refine jy (yfield rfl fb88_0' rfl) rfl rfl ?_) | (show Jo _ (.load _ _); refine jy (yload (i := 0) rfl rfl rfl one85') rfl rfl ?_) | refine jas_ rfl rfl rfl ?_ | (show Jo _ (.binOp _ _ _ _ _); refine jy (yeql rfl rfl (by (exact decide_eq_true (by omega)))) rfl rfl ?_) | (show Jo _ (.box _ _); refine jbox rfl rfl rfl (fun gb hT => ?_))))
    exact ret1 rfl rfl rfl (fun w' hw' => ⟨by rw [decide_eq_true h], hw'.2.below (fun k _ h => h) (Nat.le_refl _)⟩)
  · repeat' (first | refine cseq ?_ | refine rtext ?_ | refine cret ?_ | refine jnil ?_ | (first | (show Jo _ (.fieldAddr _ _ _); refine jy (yfield rfl fb88_0' rfl) rfl rfl ?_) | (show Jo _ (.load _ _); refine jy (yload (i := 0) rfl rfl rfl one85') rfl rfl ?_) | refine jas_ rfl rfl rfl ?_ | (show Jo _ (.binOp _ _ _ _ _); refine jy (yeql rfl rfl (by (exact decide_eq_false (by omega)))) rfl rfl ?_) | (show Jo _ (.box _ _); refine jbox rfl rfl rfl (fun gb hT => ?_))))
    exact ret1 rfl rfl rfl (fun w' hw' => ⟨by rw [decide_eq_false h], hw'.2.below (fun k _ h => h) (Nat.le_refl _)⟩)
theorem bq75 : bodyB Tryz.prog 52 = true := by kernel_rfl
theorem q75_calls {w : World} {ty : Nat} {cs : List Value} (hc : IC ty cs) : Calls Tryz.prog 52 #[.agg cs.toArray] w fun e w' => e = .returned (.bool (decide (ty = 13))) ∧ Below w.heap.size w w' := by
  obtain ⟨er, lo, hi, sg, fb, st, rfl, h1⟩ := hc
  refine enter (fun _ => False) 6 [] Tryz.func52 rfl rfl rfl (vs := [.agg #[.int .i64 (ty : Nat), er, lo, hi, sg, fb, st]]) (Has.nil _) ?_
  conv => arg 2; arg 2; whnf
  by_cases h : ty = 13
  · repeat' (first | refine cseq ?_ | refine rtext ?_ | refine cret ?_ | refine jnil ?_ | (first | (show Jo _ (.fieldAddr _ _ _); refine jy (yfield rfl fb88_0' rfl) rfl rfl ?_) | (show Jo _ (.load _ _); refine jy (yload (i := 0) rfl rfl rfl one85') rfl rfl ?_) | refine jas_ rfl rfl rfl ?_ | (show Jo _ (.binOp _ _ _ _ _); refine jy (yeql rfl rfl (by (exact decide_eq_true (by omega)))) rfl rfl ?_) | (show Jo _ (.box _ _); refine jbox rfl rfl rfl (fun gb hT => ?_))))
    exact ret1 rfl rfl rfl (fun w' hw' => ⟨by rw [decide_eq_true h], hw'.2.below (fun k _ h => h) (Nat.le_refl _)⟩)
  · repeat' (first | refine cseq ?_ | refine rtext ?_ | refine cret ?_ | refine jnil ?_ | (first | (show Jo _ (.fieldAddr _ _ _); refine jy (yfield rfl fb88_0' rfl) rfl rfl ?_) | (show Jo _ (.load _ _); refine jy (yload (i := 0) rfl rfl rfl one85') rfl rfl ?_) | refine jas_ rfl rfl rfl ?_ | (show Jo _ (.binOp _ _ _ _ _); refine jy (yeql rfl rfl (by (exact decide_eq_false (by omega)))) rfl rfl ?_) | (show Jo _ (.box _ _); refine jbox rfl rfl rfl (fun gb hT => ?_))))
    exact ret1 rfl rfl rfl (fun w' hw' => ⟨by rw [decide_eq_false h], hw'.2.below (fun k _ h => h) (Nat.le_refl _)⟩)
theorem bq76 : bodyB Tryz.prog 53 = true := by kernel_rfl
theorem q76_calls {w : World} {ty : Nat} {cs : List Value} (hc : IC ty cs) : Calls Tryz.prog 53 #[.agg cs.toArray] w fun e w' => e = .returned (.bool (decide (ty = 14))) ∧ Below w.heap.size w w' := by
  obtain ⟨er, lo, hi, sg, fb, st, rfl, h1⟩ := hc
  refine enter (fun _ => False) 6 [] Tryz.func53 rfl rfl rfl (vs := [.agg #[.int .i64 (ty : Nat), er, lo, hi, sg, fb, st]]) (Has.nil _) ?_
  conv => arg 2; arg 2; whnf
  by_cases h : ty = 14
  · repeat' (first | refine cseq ?_ | refine rtext ?_ | refine cret ?_ | refine jnil ?_ | (first | (show Jo _ (.fieldAddr _ _ _); refine jy (yfield rfl fb88_0' rfl) rfl rfl ?_) | (show Jo _ (.load _ _); refine jy (yload (i := 0) rfl rfl rfl one85') rfl rfl ?_) | refine jas_ rfl rfl rfl ?_ | (show Jo _ (.binOp _ _ _ _ _); refine jy (yeql rfl rfl (by (exact decide_eq_true (by omega)))) rfl rfl ?_) | (show Jo _ (.box _ _); refine jbox rfl rfl rfl (fun gb hT => ?_))))
    exact ret1 rfl rfl rfl (fun w' hw' => ⟨by rw [decide_eq_true h], hw'.2.below (fun k _ h => h) (Nat.le_refl _)⟩)
  · repeat' (first | refine cseq ?_ | refine rtext ?_ | refine cret ?_ | refine jnil ?_ | (first | (show Jo _ (.fieldAddr _ _ _); refine jy (yfield rfl fb88_0' rfl) rfl rfl ?_) | (show Jo _ (.load _ _); refine jy (yload (i := 0) rfl rfl rfl one85') rfl rfl ?_) | refine jas_ rfl rfl rfl ?_ | (show Jo _ (.binOp _ _ _ _ _); refine jy (yeql rfl rfl (by (exact decide_eq_false (by omega)))) rfl rfl ?_) | (show Jo _ (.box _ _); refine jbox rfl rfl rfl (fun gb hT => ?_))))
    exact ret1 rfl rfl rfl (fun w' hw' => ⟨by rw [decide_eq_false h], hw'.2.below (fun k _ h => h) (Nat.le_refl _)⟩)
theorem bq77 : bodyB Tryz.prog 54 = true := by kernel_rfl
theorem q77_calls {w : World} {ty : Nat} {cs : List Value} (hc : IC ty cs) : Calls Tryz.prog 54 #[.agg cs.toArray] w fun e w' => e = .returned (.bool (decide (ty = 10 ∨ ty = 8))) ∧ Below w.heap.size w w' := by
  obtain ⟨er, lo, hi, sg, fb, st, rfl, h1⟩ := hc
  refine enter (fun _ => False) 11 [] Tryz.func54 rfl rfl rfl (vs := [.agg #[.int .i64 (ty : Nat), er, lo, hi, sg, fb, st]]) (Has.nil _) ?_
  conv => arg 2; arg 2; whnf
  by_cases h : ty = 10
  · repeat' (first | refine cseq ?_ | refine rtext ?_ | refine cret ?_ | refine jnil ?_ | (first | refine js rfl rfl ?_ | refine jmv rfl rfl rfl ?_ | (show Jo _ (.fieldAddr _ _ _); refine jy (yfield rfl fb88_0' rfl) rfl rfl ?_) | (show Jo _ (.load _ _); refine jy (yload (i := 0) rfl rfl rfl one85') rfl rfl ?_) | refine jas_ rfl rfl rfl ?_ | (show Jo _ (.binOp _ _ _ _ _); refine jy (yeql rfl rfl (by (exact decide_eq_true (by omega)))) rfl rfl ?_) | (show Jo _ (.pick _ _ _); refine jy (ypick1 rfl rfl) rfl rfl ?_) | (show Jo _ (.box _ _); refine jbox rfl rfl rfl (fun gb hT => ?_))))
    exact ret1 rfl rfl rfl (fun w' hw' => ⟨by rw [decide_eq_true (.inl h)], hw'.2.below (fun k _ h => h) (Nat.le_refl _)⟩)
  · by_cases h' : ty = 8
    · repeat' (first | refine cseq ?_ | refine rtext ?_ | refine cret ?_ | refine jnil ?_ | (first | refine jmv rfl rfl rfl ?_ | (show Jo _ (.fieldAddr _ _ _); refine jy (yfield rfl fb88_0' rfl) rfl rfl ?_) | (show Jo _ (.load _ _); refine jy (yload (i := 0) rfl rfl rfl one85') rfl rfl ?_) | refine jas_ rfl rfl rfl ?_ | (show Jo _ (.binOp _ _ _ _ _); (refine jy (yeql rfl rfl (by first | exact decide_eq_true (by omega) | exact decide_eq_false (by omega))) rfl rfl ?_)) | (show Jo _ (.pick _ _ _); refine jy (ypick0 rfl rfl) rfl rfl ?_) | (show Jo _ (.box _ _); refine jbox rfl rfl rfl (fun gb hT => ?_))))
      exact ret1 rfl rfl rfl (fun w' hw' => ⟨by rw [decide_eq_true (.inr h')], hw'.2.below (fun k _ h => h) (Nat.le_refl _)⟩)
    · repeat' (first | refine cseq ?_ | refine rtext ?_ | refine cret ?_ | refine jnil ?_ | (first | refine jmv rfl rfl rfl ?_ | (show Jo _ (.fieldAddr _ _ _); refine jy (yfield rfl fb88_0' rfl) rfl rfl ?_) | (show Jo _ (.load _ _); refine jy (yload (i := 0) rfl rfl rfl one85') rfl rfl ?_) | refine jas_ rfl rfl rfl ?_ | (show Jo _ (.binOp _ _ _ _ _); refine jy (yeql rfl rfl (by (exact decide_eq_false (by omega)))) rfl rfl ?_) | (show Jo _ (.pick _ _ _); refine jy (ypick0 rfl rfl) rfl rfl ?_) | (show Jo _ (.box _ _); refine jbox rfl rfl rfl (fun gb hT => ?_))))
      exact ret1 rfl rfl rfl (fun w' hw' => ⟨by rw [decide_eq_false (fun x => x.elim h h')], hw'.2.below (fun k _ h => h) (Nat.le_refl _)⟩)
theorem bq78 : bodyB Tryz.prog 55 = true := by kernel_rfl
theorem q78_calls {w : World} {ty : Nat} {cs : List Value} (hc : IC ty cs) : Calls Tryz.prog 55 #[.agg cs.toArray] w fun e w' => e = .returned (.bool (decide (ty = 11 ∨ ty = 9))) ∧ Below w.heap.size w w' := by
  obtain ⟨er, lo, hi, sg, fb, st, rfl, h1⟩ := hc
  refine enter (fun _ => False) 11 [] Tryz.func55 rfl rfl rfl (vs := [.agg #[.int .i64 (ty : Nat), er, lo, hi, sg, fb, st]]) (Has.nil _) ?_
  conv => arg 2; arg 2; whnf
  by_cases h : ty = 11
  · repeat' (first | refine cseq ?_ | refine rtext ?_ | refine cret ?_ | refine jnil ?_ | (first | refine js rfl rfl ?_ | refine jmv rfl rfl rfl ?_ | (show Jo _ (.fieldAddr _ _ _); refine jy (yfield rfl fb88_0' rfl) rfl rfl ?_) | (show Jo _ (.load _ _); refine jy (yload (i := 0) rfl rfl rfl one85') rfl rfl ?_) | refine jas_ rfl rfl rfl ?_ | (show Jo _ (.binOp _ _ _ _ _); refine jy (yeql rfl rfl (by (exact decide_eq_true (by omega)))) rfl rfl ?_) | (show Jo _ (.pick _ _ _); refine jy (ypick1 rfl rfl) rfl rfl ?_) | (show Jo _ (.box _ _); refine jbox rfl rfl rfl (fun gb hT => ?_))))
    exact ret1 rfl rfl rfl (fun w' hw' => ⟨by rw [decide_eq_true (.inl h)], hw'.2.below (fun k _ h => h) (Nat.le_refl _)⟩)
  · by_cases h' : ty = 9
    · repeat' (first | refine cseq ?_ | refine rtext ?_ | refine cret ?_ | refine jnil ?_ | (first | refine jmv rfl rfl rfl ?_ | (show Jo _ (.fieldAddr _ _ _); refine jy (yfield rfl fb88_0' rfl) rfl rfl ?_) | (show Jo _ (.load _ _); refine jy (yload (i := 0) rfl rfl rfl one85') rfl rfl ?_) | refine jas_ rfl rfl rfl ?_ | (show Jo _ (.binOp _ _ _ _ _); (refine jy (yeql rfl rfl (by first | exact decide_eq_true (by omega) | exact decide_eq_false (by omega))) rfl rfl ?_)) | (show Jo _ (.pick _ _ _); refine jy (ypick0 rfl rfl) rfl rfl ?_) | (show Jo _ (.box _ _); refine jbox rfl rfl rfl (fun gb hT => ?_))))
      exact ret1 rfl rfl rfl (fun w' hw' => ⟨by rw [decide_eq_true (.inr h')], hw'.2.below (fun k _ h => h) (Nat.le_refl _)⟩)
    · repeat' (first | refine cseq ?_ | refine rtext ?_ | refine cret ?_ | refine jnil ?_ | (first | refine jmv rfl rfl rfl ?_ | (show Jo _ (.fieldAddr _ _ _); refine jy (yfield rfl fb88_0' rfl) rfl rfl ?_) | (show Jo _ (.load _ _); refine jy (yload (i := 0) rfl rfl rfl one85') rfl rfl ?_) | refine jas_ rfl rfl rfl ?_ | (show Jo _ (.binOp _ _ _ _ _); refine jy (yeql rfl rfl (by (exact decide_eq_false (by omega)))) rfl rfl ?_) | (show Jo _ (.pick _ _ _); refine jy (ypick0 rfl rfl) rfl rfl ?_) | (show Jo _ (.box _ _); refine jbox rfl rfl rfl (fun gb hT => ?_))))
      exact ret1 rfl rfl rfl (fun w' hw' => ⟨by rw [decide_eq_false (fun x => x.elim h h')], hw'.2.below (fun k _ h => h) (Nat.le_refl _)⟩)
theorem bq79 : bodyB Tryz.prog 56 = true := by kernel_rfl
theorem q79_calls {w : World} {ty : Nat} {cs : List Value} (hc : IC ty cs) : Calls Tryz.prog 56 #[.agg cs.toArray] w fun e w' => e = .returned (.bool (decide (ty = 12))) ∧ Below w.heap.size w w' := by
  obtain ⟨er, lo, hi, sg, fb, st, rfl, h1⟩ := hc
  refine enter (fun _ => False) 6 [] Tryz.func56 rfl rfl rfl (vs := [.agg #[.int .i64 (ty : Nat), er, lo, hi, sg, fb, st]]) (Has.nil _) ?_
  conv => arg 2; arg 2; whnf
  by_cases h : ty = 12
  · repeat' (first | refine cseq ?_ | refine rtext ?_ | refine cret ?_ | refine jnil ?_ | (first | (show Jo _ (.fieldAddr _ _ _); refine jy (yfield rfl fb88_0' rfl) rfl rfl ?_) | (show Jo _ (.load _ _); refine jy (yload (i := 0) rfl rfl rfl one85') rfl rfl ?_) | refine jas_ rfl rfl rfl ?_ | (show Jo _ (.binOp _ _ _ _ _); refine jy (yeql rfl rfl (by (exact decide_eq_true (by omega)))) rfl rfl ?_) | (show Jo _ (.box _ _); refine jbox rfl rfl rfl (fun gb hT => ?_))))
    exact ret1 rfl rfl rfl (fun w' hw' => ⟨by rw [decide_eq_true h], hw'.2.below (fun k _ h => h) (Nat.le_refl _)⟩)
  · repeat' (first | refine cseq ?_ | refine rtext ?_ | refine cret ?_ | refine jnil ?_ | (first | (show Jo _ (.fieldAddr _ _ _); refine jy (yfield rfl fb88_0' rfl) rfl rfl ?_) | (show Jo _ (.load _ _); refine jy (yload (i := 0) rfl rfl rfl one85') rfl rfl ?_) | refine jas_ rfl rfl rfl ?_ | (show Jo _ (.binOp _ _ _ _ _); refine jy (yeql rfl rfl (by (exact decide_eq_false (by omega)))) rfl rfl ?_) | (show Jo _ (.box _ _); refine jbox rfl rfl rfl (fun gb hT => ?_))))
    exact ret1 rfl rfl rfl (fun w' hw' => ⟨by rw [decide_eq_false h], hw'.2.below (fun k _ h => h) (Nat.le_refl _)⟩)
theorem bq80 : bodyB Tryz.prog 57 = true := by kernel_rfl
theorem q80_calls {w : World} {ty : Nat} {cs : List Value} (hc : IC ty cs) : Calls Tryz.prog 57 #[.agg cs.toArray] w fun e w' => e = .returned (.bool (decide (ty = 15))) ∧ Below w.heap.size w w' := by
  obtain ⟨er, lo, hi, sg, fb, st, rfl, h1⟩ := hc
  refine enter (fun _ => False) 6 [] Tryz.func57 rfl rfl rfl (vs := [.agg #[.int .i64 (ty : Nat), er, lo, hi, sg, fb, st]]) (Has.nil _) ?_
  conv => arg 2; arg 2; whnf
  by_cases h : ty = 15
  · repeat' (first | refine cseq ?_ | refine rtext ?_ | refine cret ?_ | refine jnil ?_ | (first | (show Jo _ (.fieldAddr _ _ _); refine jy (yfield rfl fb88_0' rfl) rfl rfl ?_) | (show Jo _ (.load _ _); refine jy (yload (i := 0) rfl rfl rfl one85') rfl rfl ?_) | refine jas_ rfl rfl rfl ?_ | (show Jo _ (.binOp _ _ _ _ _); refine jy (yeql rfl rfl (by (exact decide_eq_true (by omega)))) rfl rfl ?_) | (show Jo _ (.box _ _); refine jbox rfl rfl rfl (fun gb hT => ?_))))
    exact ret1 rfl rfl rfl (fun w' hw' => ⟨by rw [decide_eq_true h], hw'.2.below (fun k _ h => h) (Nat.le_refl _)⟩)
  · repeat' (first | refine cseq ?_ | refine rtext ?_ | refine cret ?_ | refine jnil ?_ | (first | (show Jo _ (.fieldAddr _ _ _); refine jy (yfield rfl fb88_0' rfl) rfl rfl ?_) | (show Jo _ (.load _ _); refine jy (yload (i := 0) rfl rfl rfl one85') rfl rfl ?_) | refine jas_ rfl rfl rfl ?_ | (show Jo _ (.binOp _ _ _ _ _); refine jy (yeql rfl rfl (by (exact decide_eq_false (by omega)))) rfl rfl ?_) | (show Jo _ (.box _ _); refine jbox rfl rfl rfl (fun gb hT => ?_))))
    exact ret1 rfl rfl rfl (fun w' hw' => ⟨by rw [decide_eq_false h], hw'.2.below (fun k _ h => h) (Nat.le_refl _)⟩)
theorem bq81 : bodyB Tryz.prog 58 = true := by kernel_rfl
theorem q81_calls {w : World} {ty : Nat} {cs : List Value} (hc : IC ty cs) : Calls Tryz.prog 58 #[.agg cs.toArray] w fun e w' => e = .returned (.bool (decide (ty = 16))) ∧ Below w.heap.size w w' := by
  obtain ⟨er, lo, hi, sg, fb, st, rfl, h1⟩ := hc
  refine enter (fun _ => False) 6 [] Tryz.func58 rfl rfl rfl (vs := [.agg #[.int .i64 (ty : Nat), er, lo, hi, sg, fb, st]]) (Has.nil _) ?_
  conv => arg 2; arg 2; whnf
  by_cases h : ty = 16
  · repeat' (first | refine cseq ?_ | refine rtext ?_ | refine cret ?_ | refine jnil ?_ | (first | (show Jo _ (.fieldAddr _ _ _); refine jy (yfield rfl fb88_0' rfl) rfl rfl ?_) | (show Jo _ (.load _ _); refine jy (yload (i := 0) rfl rfl rfl one85') rfl rfl ?_) | refine jas_ rfl rfl rfl ?_ | (show Jo _ (.binOp _ _ _ _ _); refine jy (yeql rfl rfl (by (exact decide_eq_true (by omega)))) rfl rfl ?_) | (show Jo _ (.box _ _); refine jbox rfl rfl rfl (fun gb hT => ?_))))
    exact ret1 rfl rfl rfl (fun w' hw' => ⟨by rw [decide_eq_true h], hw'.2.below (fun k _ h => h) (Nat.le_refl _)⟩)
  · repeat' (first | refine cseq ?_ | refine rtext ?_ | refine cret ?_ | refine jnil ?_ | (first | (show Jo _ (.fieldAddr _ _ _); refine jy (yfield rfl fb88_0' rfl) rfl rfl ?_) | (show Jo _ (.load _ _); refine jy (yload (i := 0) rfl rfl rfl one85') rfl rfl ?_) | refine jas_ rfl rfl rfl ?_ | (show Jo _ (.binOp _ _ _ _ _); refine jy (yeql rfl rfl (by (exact decide_eq_false (by omega)))) rfl rfl ?_) | (show Jo _ (.box _ _); refine jbox rfl rfl rfl (fun gb hT => ?_))))
    exact ret1 rfl rfl rfl (fun w' hw' => ⟨by rw [decide_eq_false h], hw'.2.below (fun k _ h => h) (Nat.le_refl _)⟩)
theorem bq82 : bodyB Tryz.prog 59 = true := by kernel_rfl
theorem q82_calls {w : World} {ty : Nat} {cs : List Value} (hc : IC ty cs) : Calls Tryz.prog 59 #[.agg cs.toArray] w fun e w' => e = .returned (.bool (decide (ty = 10 ∨ ty = 11))) ∧ Below w.heap.size w w' := by
  obtain ⟨er, lo, hi, sg, fb, st, rfl, h1⟩ := hc
  refine enter (fun _ => False) 11 [] Tryz.func59 rfl rfl rfl (vs := [.agg #[.int .i64 (ty : Nat), er, lo, hi, sg, fb, st]]) (Has.nil _) ?_
  conv => arg 2; arg 2; whnf
  by_cases h : ty = 10
  · repeat' (first | refine cseq ?_ | refine rtext ?_ | refine cret ?_ | refine jnil ?_ | (first | refine js rfl rfl ?_ | refine jmv rfl rfl rfl ?_ | (show Jo _ (.fieldAddr _ _ _); refine jy (yfield rfl fb88_0' rfl) rfl rfl ?_) | (show Jo _ (.load _ _); refine jy (yload (i := 0) rfl rfl rfl one85') rfl rfl ?_) | refine jas_ rfl rfl rfl ?_ | (show Jo _ (.binOp _ _ _ _ _); refine jy (yeql rfl rfl (by (exact decide_eq_true (by omega)))) rfl rfl ?_) | (show Jo _ (.pick _ _ _); refine jy (ypick1 rfl rfl) rfl rfl ?_) | (show Jo _ (.box _ _); refine jbox rfl rfl rfl (fun gb hT => ?_))))
    exact ret1 rfl rfl rfl (fun w' hw' => ⟨by rw [decide_eq_true (.inl h)], hw'.2.below (fun k _ h => h) (Nat.le_refl _)⟩)
  · by_cases h' : ty = 11
    · repeat' (first | refine cseq ?_ | refine rtext ?_ | refine cret ?_ | refine jnil ?_ | (first | refine jmv rfl rfl rfl ?_ | (show Jo _ (.fieldAddr _ _ _); refine jy (yfield rfl fb88_0' rfl) rfl rfl ?_) | (show Jo _ (.load _ _); refine jy (yload (i := 0) rfl rfl rfl one85') rfl rfl ?_) | refine jas_ rfl rfl rfl ?_ | (show Jo _ (.binOp _ _ _ _ _); (refine jy (yeql rfl rfl (by first | exact decide_eq_true (by omega) | exact decide_eq_false (by omega))) rfl rfl ?_)) | (show Jo _ (.pick _ _ _); refine jy (ypick0 rfl rfl) rfl rfl ?_) | (show Jo _ (.box _ _); refine jbox rfl rfl rfl (fun gb hT => ?_))))
      exact ret1 rfl rfl rfl (fun w' hw' => ⟨by rw [decide_eq_true (.inr h')], hw'.2.below (fun k _ h => h) (Nat.le_refl _)⟩)
    · repeat' (first | refine cseq ?_ | refine rtext ?_ | refine cret ?_ | refine jnil ?_ | (first | refine jmv rfl rfl rfl ?_ | (show Jo _ (.fieldAddr _ _ _); refine jy (yfield rfl fb88_0' rfl) rfl rfl ?_) | (show Jo _ (.load _ _); refine jy (yload (i := 0) rfl rfl rfl one85') rfl rfl ?_) | refine jas_ rfl rfl rfl ?_ | (show Jo _ (.binOp _ _ _ _ _); refine jy (yeql rfl rfl (by (exact decide_eq_false (by omega)))) rfl rfl ?_) | (show Jo _ (.pick _ _ _); refine jy (ypick0 rfl rfl) rfl rfl ?_) | (show Jo _ (.box _ _); refine jbox rfl rfl rfl (fun gb hT => ?_))))
      exact ret1 rfl rfl rfl (fun w' hw' => ⟨by rw [decide_eq_false (fun x => x.elim h h')], hw'.2.below (fun k _ h => h) (Nat.le_refl _)⟩)
theorem bq85 : bodyB Tryz.prog 62 = true := by kernel_rfl
theorem q85_calls {w : World} {ty : Nat} {cs : List Value} (hc : IC ty cs) : Calls Tryz.prog 62 #[.agg cs.toArray] w fun e w' => e = .returned (.bool (decide (ty = 1))) ∧ Below w.heap.size w w' := by
  obtain ⟨er, lo, hi, sg, fb, st, rfl, h1⟩ := hc
  refine enter (fun _ => False) 6 [] Tryz.func62 rfl rfl rfl (vs := [.agg #[.int .i64 (ty : Nat), er, lo, hi, sg, fb, st]]) (Has.nil _) ?_
  conv => arg 2; arg 2; whnf
  by_cases h : ty = 1
  · repeat' (first | refine cseq ?_ | refine rtext ?_ | refine cret ?_ | refine jnil ?_ | (first | (show Jo _ (.fieldAddr _ _ _); refine jy (yfield rfl fb88_0' rfl) rfl rfl ?_) | (show Jo _ (.load _ _); refine jy (yload (i := 0) rfl rfl rfl one85') rfl rfl ?_) | refine jas_ rfl rfl rfl ?_ | (show Jo _ (.binOp _ _ _ _ _); refine jy (yeql rfl rfl (by (exact decide_eq_true (by omega)))) rfl rfl ?_) | (show Jo _ (.box _ _); refine jbox rfl rfl rfl (fun gb hT => ?_))))
    exact ret1 rfl rfl rfl (fun w' hw' => ⟨by rw [decide_eq_true h], hw'.2.below (fun k _ h => h) (Nat.le_refl _)⟩)
  · repeat' (first | refine cseq ?_ | refine rtext ?_ | refine cret ?_ | refine jnil ?_ | (first | (show Jo _ (.fieldAddr _ _ _); refine jy (yfield rfl fb88_0' rfl) rfl rfl ?_) | (show Jo _ (.load _ _); refine jy (yload (i := 0) rfl rfl rfl one85') rfl rfl ?_) | refine jas_ rfl rfl rfl ?_ | (show Jo _ (.binOp _ _ _ _ _); refine jy (yeql rfl rfl (by (exact decide_eq_false (by omega)))) rfl rfl ?_) | (show Jo _ (.box _ _); refine jbox rfl rfl rfl (fun gb hT => ?_))))
    exact ret1 rfl rfl rfl (fun w' hw' => ⟨by rw [decide_eq_false h], hw'.2.below (fun k _ h => h) (Nat.le_refl _)⟩)
theorem bq86 : bodyB Tryz.prog 63 = true := by kernel_rfl
theorem q86_calls {w : World} {ty : Nat} {cs : List Value} (hc : IC ty cs) : Calls Tryz.prog 63 #[.agg cs.toArray] w fun e w' => e = .returned (.bool (decide (ty = 0))) ∧ Below w.heap.size w w' := by
  obtain ⟨er, lo, hi, sg, fb, st, rfl, h1⟩ := hc
  refine enter (fun _ => False) 6 [] Tryz.func63 rfl rfl rfl (vs := [.agg #[.int .i64 (ty : Nat), er, lo, hi, sg, fb, st]]) (Has.nil _) ?_
  conv => arg 2; arg 2; whnf
  by_cases h : ty = 0
  · repeat' (first | refine cseq ?_ | refine rtext ?_ | refine cret ?_ | refine jnil ?_ | (first | (show Jo _ (.fieldAddr _ _ _); refine jy (yfield rfl fb88_0' rfl) rfl rfl ?_) | (show Jo _ (.load _ _); refine jy (yload (i := 0) rfl rfl rfl one85') rfl rfl ?_) | refine jas_ rfl rfl rfl ?_ | (show Jo _ (.binOp _ _ _ _ _); refine jy (yeql rfl rfl (by (exact decide_eq_true (by omega)))) rfl rfl ?_) | (show Jo _ (.box _ _); refine jbox rfl rfl rfl (fun gb hT => ?_))))
    exact ret1 rfl rfl rfl (fun w' hw' => ⟨by rw [decide_eq_true h], hw'.2.below (fun k _ h => h) (Nat.le_refl _)⟩)
  · repeat' (first | refine cseq ?_ | refine rtext ?_ | refine cret ?_ | refine jnil ?_ | (first | (show Jo _ (.fieldAddr _ _ _); refine jy (yfield rfl fb88_0' rfl) rfl rfl ?_) | (show Jo _ (.load _ _); refine jy (yload (i := 0) rfl rfl rfl one85') rfl rfl ?_) | refine jas_ rfl rfl rfl ?_ | (show Jo _ (.binOp _ _ _ _ _); refine jy (yeql rfl rfl (by (exact decide_eq_false (by omega)))) rfl rfl ?_) | (show Jo _ (.box _ _); refine jbox rfl rfl rfl (fun gb hT => ?_))))
    exact ret1 rfl rfl rfl (fun w' hw' => ⟨by rw [decide_eq_false h], hw'.2.below (fun k _ h => h) (Nat.le_refl _)⟩)
theorem bq83 : bodyB Tryz.prog 60 = true := by kernel_rfl
theorem q83_calls {w : World} {ty : Nat} {cs : List Value} (hc : IC ty cs) : Calls Tryz.prog 60 #[.agg cs.toArray] w fun e w' => e = .returned (.bool (decide (3 ≤ ty ∧ ty ≤ 6))) ∧ Below w.heap.size w w' := by
  obtain ⟨er, lo, hi, sg, fb, st, rfl, h1⟩ := hc
  refine enter (fun _ => False) 11 [] Tryz.func60 rfl rfl rfl (vs := [.agg #[.int .i64 (ty : Nat), er, lo, hi, sg, fb, st]]) (Has.nil _) ?_
  conv => arg 2; arg 2; whnf
  by_cases h : 3 ≤ ty
  · by_cases h' : ty ≤ 6
    · repeat' (first | refine cseq ?_ | refine rtext ?_ | refine cret ?_ | refine jnil ?_ | (first | refine jmv rfl rfl rfl ?_ | (show Jo _ (.fieldAddr _ _ _); refine jy (yfield rfl fb88_0' rfl) rfl rfl ?_) | (show Jo _ (.load _ _); refine jy (yload (i := 0) rfl rfl rfl one85') rfl rfl ?_) | refine jas_ rfl rfl rfl ?_ | (show Jo _ (.binOp _ _ _ _ _); first | (show Jo _ (.binOp .leq _ _ _ _); refine jy (yleq rfl rfl (by (exact decide_eq_true (by omega)))) rfl rfl ?_) | refine jy (ygeq rfl rfl (by (exact decide_eq_true (by omega)))) rfl rfl ?_) | (show Jo _ (.pick _ _ _); refine jy (ypick1 rfl rfl) rfl rfl ?_) | (show Jo _ (.box _ _); refine jbox rfl rfl rfl (fun gb hT => ?_))))
      exact ret1 rfl rfl rfl (fun w' hw' => ⟨by rw [decide_eq_true ⟨h, h'⟩], hw'.2.below (fun k _ h => h) (Nat.le_refl _)⟩)
    · repeat' (first | refine cseq ?_ | refine rtext ?_ | refine cret ?_ | refine jnil ?_ | (first | refine jmv rfl rfl rfl ?_ | (show Jo _ (.fieldAddr _ _ _); refine jy (yfield rfl fb88_0' rfl) rfl rfl ?_) | (show Jo _ (.load _ _); refine jy (yload (i := 0) rfl rfl rfl one85') rfl rfl ?_) | refine jas_ rfl rfl rfl ?_ | (show Jo _ (.binOp _ _ _ _ _); first | (show Jo _ (.binOp .leq _ _ _ _); refine jy (yleq rfl rfl (by (exact decide_eq_false (by omega)))) rfl rfl ?_) | refine jy (ygeq rfl rfl (by (exact decide_eq_true (by omega)))) rfl rfl ?_) | (show Jo _ (.pick _ _ _); refine jy (ypick1 rfl rfl) rfl rfl ?_) | (show Jo _ (.box _ _); refine jbox rfl rfl rfl (fun gb hT => ?_))))
      exact ret1 rfl rfl rfl (fun w' hw' => ⟨by rw [decide_eq_false (fun x => h' x.2)], hw'.2.below (fun k _ h => h) (Nat.le_refl _)⟩)
  · repeat' (first | refine cseq ?_ | refine rtext ?_ | refine cret ?_ | refine jnil ?_ | (first | refine js rfl rfl ?_ | refine jmv rfl rfl rfl ?_ | (show Jo _ (.fieldAddr _ _ _); refine jy (yfield rfl fb88_0' rfl) rfl rfl ?_) | (show Jo _ (.load _ _); refine jy (yload (i := 0) rfl rfl rfl one85') rfl rfl ?_) | refine jas_ rfl rfl rfl ?_ | (show Jo _ (.binOp _ _ _ _ _); refine jy (ygeq rfl rfl (by (exact decide_eq_false (by omega)))) rfl rfl ?_) | (show Jo _ (.pick _ _ _); refine jy (ypick0 rfl rfl) rfl rfl ?_) | (show Jo _ (.box _ _); refine jbox rfl rfl rfl (fun gb hT => ?_))))
    exact ret1 rfl rfl rfl (fun w' hw' => ⟨by rw [decide_eq_false (fun x => h x.1)], hw'.2.below (fun k _ h => h) (Nat.le_refl _)⟩)
theorem bq84 : bodyB Tryz.prog 61 = true := by kernel_rfl
theorem q84_calls {w : World} {ty : Nat} {cs : List Value} (hc : IC ty cs) : Calls Tryz.prog 61 #[.agg cs.toArray] w fun e w' => e = .returned (.bool (decide (ty = 0 ∨ ty = 1))) ∧ Below w.heap.size w w' := by
  have hc0 := hc
  obtain ⟨er, lo, hi, sg, fb, st, hcs, h1⟩ := hc0
  subst hcs
  refine enter (fun _ => False) 9 [] Tryz.func61 rfl rfl rfl (vs := [.agg #[.int .i64 (ty : Nat), er, lo, hi, sg, fb, st]]) (Has.nil _) ?_
  conv => arg 2; arg 2; whnf
  by_cases h : ty = 0
  · repeat' (first | refine cseq ?_ | refine rtext ?_ | refine cret ?_ | refine jnil ?_ | (first | refine js rfl rfl ?_ | refine jmv rfl rfl rfl ?_ | (show Jo _ (.load _ _); refine jy (yloads (i := 0) rfl rfl ag88) rfl rfl ?_) | refine jas_ rfl rfl rfl ?_ | (show Jo _ (.pick _ _ _); refine jy (ypick1 rfl rfl) rfl rfl ?_) | (show Jo _ (.call _); ((show Jo _ (.call ⟨.value (.func 63), _, _⟩); (refine jcallq (v := .bool true) bq86 rfl rfl rfl (quietC fun w' _ => by have := q86_calls (w := w') (ty := ty) hc; rwa [decide_eq_true (by omega)] at this) ?_)))) | (show Jo _ (.box _ _); refine jbox rfl rfl rfl (fun gb hT => ?_))))
    exact ret1 rfl rfl rfl (fun w' hw' => ⟨by rw [decide_eq_true (.inl h)], hw'.2.below (fun k _ h => h) (Nat.le_refl _)⟩)
  · by_cases h' : ty = 1
    · repeat' (first | refine cseq ?_ | refine rtext ?_ | refine cret ?_ | refine jnil ?_ | (first | refine jmv rfl rfl rfl ?_ | (show Jo _ (.load _ _); refine jy (yloads (i := 0) rfl rfl ag88) rfl rfl ?_) | refine jas_ rfl rfl rfl ?_ | (show Jo _ (.pick _ _ _); refine jy (ypick0 rfl rfl) rfl rfl ?_) | (show Jo _ (.call _); first | (show Jo _ (.call ⟨.value (.func 63), _, _⟩); (refine jcallq (v := .bool false) bq86 rfl rfl rfl (quietC fun w' _ => by have := q86_calls (w := w') (ty := ty) hc; rwa [decide_eq_false (by omega)] at this) ?_)) | (show Jo _ (.call ⟨.value (.func 62), _, _⟩); (refine jcallq (v := .bool true) bq85 rfl rfl rfl (quietC fun w' _ => by have := q85_calls (w := w') (ty := ty) hc; rwa [decide_eq_true (by omega)] at this) ?_))) | (show Jo _ (.box _ _); refine jbox rfl rfl rfl (fun gb hT => ?_))))
      exact ret1 rfl rfl rfl (fun w' hw' => ⟨by rw [decide_eq_true (.inr h')], hw'.2.below (fun k _ h => h) (Nat.le_refl _)⟩)
    · repeat' (first | refine cseq ?_ | refine rtext ?_ | refine cret ?_ | refine jnil ?_ | (first | refine jmv rfl rfl rfl ?_ | (show Jo _ (.load _ _); refine jy (yloads (i := 0) rfl rfl ag88) rfl rfl ?_) | refine jas_ rfl rfl rfl ?_ | (show Jo _ (.pick _ _ _); refine jy (ypick0 rfl rfl) rfl rfl ?_) | (show Jo _ (.call _); first | (show Jo _ (.call ⟨.value (.func 63), _, _⟩); (refine jcallq (v := .bool false) bq86 rfl rfl rfl (quietC fun w' _ => by have := q86_calls (w := w') (ty := ty) hc; rwa [decide_eq_false (by omega)] at this) ?_)) | (show Jo _ (.call ⟨.value (.func 62), _, _⟩); (refine jcallq (v := .bool false) bq85 rfl rfl rfl (quietC fun w' _ => by have := q85_calls (w := w') (ty := ty) hc; rwa [decide_eq_false (by omega)] at this) ?_))) | (show Jo _ (.box _ _); refine jbox rfl rfl rfl (fun gb hT => ?_))))
      exact ret1 rfl rfl rfl (fun w' hw' => ⟨by rw [decide_eq_false (fun x => x.elim h h')], hw'.2.below (fun k _ h => h) (Nat.le_refl _)⟩)
theorem bq72 : bodyB Tryz.prog 49 = true := by kernel_rfl
theorem q72_calls {w : World} {ty : Nat} {cs : List Value} (hc : IC ty cs) : Calls Tryz.prog 49 #[.agg cs.toArray] w fun e w' => e = .returned (.bool (decide (ty = 18 ∨ ty = 17))) ∧ Below w.heap.size w w' := by
  have hc0 := hc
  obtain ⟨er, lo, hi, sg, fb, st, hcs, h1⟩ := hc0
  subst hcs
  refine enter (fun _ => False) 10 [] Tryz.func49 rfl rfl rfl (vs := [.agg #[.int .i64 (ty : Nat), er, lo, hi, sg, fb, st]]) (Has.nil _) ?_
  conv => arg 2; arg 2; whnf
  by_cases h : ty = 18
  · repeat' (first | refine cseq ?_ | refine rtext ?_ | refine cret ?_ | refine jnil ?_ | (first | refine js rfl rfl ?_ | refine jmv rfl rfl rfl ?_ | (show Jo _ (.fieldAddr _ _ _); refine jy (yfield rfl fb88_0' rfl) rfl rfl ?_) | (show Jo _ (.load _ _); refine jy (yload (i := 0) rfl rfl rfl one85') rfl rfl ?_) | refine jas_ rfl rfl rfl ?_ | (show Jo _ (.binOp _ _ _ _ _); refine jy (yeql rfl rfl (by (exact decide_eq_true (by omega)))) rfl rfl ?_) | (show Jo _ (.pick _ _ _); refine jy (ypick1 rfl rfl) rfl rfl ?_) | (show Jo _ (.box _ _); refine jbox rfl rfl rfl (fun gb hT => ?_))))
    exact ret1 rfl rfl rfl (fun w' hw' => ⟨by rw [decide_eq_true (.inl h)], hw'.2.below (fun k _ h => h) (Nat.le_refl _)⟩)
  · by_cases h' : ty = 17
    · repeat' (first | refine cseq ?_ | refine rtext ?_ | refine cret ?_ | refine jnil ?_ | (first | refine jmv rfl rfl rfl ?_ | (show Jo _ (.fieldAddr _ _ _); refine jy (yfield rfl fb88_0' rfl) rfl rfl ?_) | (show Jo _ (.load _ _); first | refine jy (yload (i := 0) rfl rfl rfl one85') rfl rfl ?_ | refine jy (yloads (i := 0) rfl rfl ag88) rfl rfl ?_) | refine jas_ rfl rfl rfl ?_ | (show Jo _ (.binOp _ _ _ _ _); refine jy (yeql rfl rfl (by (exact decide_eq_false (by omega)))) rfl rfl ?_) | (show Jo _ (.pick _ _ _); refine jy (ypick0 rfl rfl) rfl rfl ?_) | (show Jo _ (.call _); ((show Jo _ (.call ⟨.value (.func 50), _, _⟩); (refine jcallq (v := .bool true) bq73 rfl rfl rfl (quietC fun w' _ => by have := q73_calls (w := w') (ty := ty) hc; rwa [decide_eq_true (by omega)] at this) ?_)))) | (show Jo _ (.box _ _); refine jbox rfl rfl rfl (fun gb hT => ?_))))
      exact ret1 rfl rfl rfl (fun w' hw' => ⟨by rw [decide_eq_true (.inr h')], hw'.2.below (fun k _ h => h) (Nat.le_refl _)⟩)
    · repeat' (first | refine cseq ?_ | refine rtext ?_ | refine cret ?_ | refine jnil ?_ | (first | refine jmv rfl rfl rfl ?_ | (show Jo _ (.fieldAddr _ _ _); refine jy (yfield rfl fb88_0' rfl) rfl rfl ?_) | (show Jo _ (.load _ _); first | refine jy (yload (i := 0) rfl rfl rfl one85') rfl rfl ?_ | refine jy (yloads (i := 0) rfl rfl ag88) rfl rfl ?_) | refine jas_ rfl rfl rfl ?_ | (show Jo _ (.binOp _ _ _ _ _); refine jy (yeql rfl rfl (by (exact decide_eq_false (by omega)))) rfl rfl ?_) | (show Jo _ (.pick _ _ _); refine jy (ypick0 rfl rfl) rfl rfl ?_) | (show Jo _ (.call _); ((show Jo _ (.call ⟨.value (.func 50), _, _⟩); (refine jcallq (v := .bool false) bq73 rfl rfl rfl (quietC fun w' _ => by have := q73_calls (w := w') (ty := ty) hc; rwa [decide_eq_false (by omega)] at this) ?_)))) | (show Jo _ (.box _ _); refine jbox rfl rfl rfl (fun gb hT => ?_))))
      exact ret1 rfl rfl rfl (fun w' hw' => ⟨by rw [decide_eq_false (fun x => x.elim h h')], hw'.2.below (fun k _ h => h) (Nat.le_refl _)⟩)
theorem bo107 : bodyB Tryz.prog 79 = true := by kernel_rfl
theorem fb88_3' : fieldB Tryz.prog 70 3 = some 3 := by kernel_rfl
theorem fb126_0' : fieldB Tryz.prog 97 0 = some 0 := by kernel_rfl
theorem fb126_1' : fieldB Tryz.prog 97 1 = some 1 := by kernel_rfl
theorem sz126' : szB Tryz.prog 97 2 = true := by kernel_rfl
theorem und86' : Tryz.prog.underlying 68 = some (.slice 97) := by kernel_rfl
def SegW (w : World) (sg : Value) (segs : List (Nat × Nat)) : Prop := (segs = [] ∧ sg = .slice none 0 0) ∨ ∃ A cap, segs ≠ [] ∧ sg = .slice (some A) segs.length cap ∧ ∀ (j : Nat) u, (segC segs)[j]? = some u → w.cell? (A.add j) = some u
theorem val0_calls {w : World} {s : T} {b o c ty lo hi fb : Nat} {er st : Value} (h1 : er.oneCell' = true) (h2 : st.oneCell' = true) (hB : Byt w (.slice (some ⟨b, o, none⟩) s.length c) s) (hlo : lo ≤ hi) (hhi : hi ≤ s.length) :
    Calls Tryz.prog 79 #[.agg #[.int .i64 (ty : Nat), er, .int .i64 (lo : Nat), .int .i64 (hi : Nat), .slice none 0 0, .int .u8 (fb : Nat), st], .slice (some ⟨b, o, none⟩) s.length c] w fun e w' => ∃ v', e = .returned v' ∧ Byt w' v' (cut s lo hi) ∧ Below w.heap.size w w' := by
  have hcap : s.length ≤ c := by obtain ⟨b', o', c', he, hc, _⟩ := hB; cases he; exact hc
  refine enter (fun _ => False) 50 [] Tryz.func79 rfl rfl rfl (vs := [.agg #[.int .i64 (ty : Nat), er, .int .i64 (lo : Nat), .int .i64 (hi : Nat), .slice none 0 0, .int .u8 (fb : Nat), st], .slice (some ⟨b, o, none⟩) s.length c]) (Has.nil _) ?_
  conv => arg 2; arg 2; whnf
  repeat' (first | refine cseq ?_ | refine rtext ?_ | refine ctrue rfl ?_ | refine cret ?_ | refine tret ?_ | refine jnil ?_ | (first | refine jmv rfl rfl rfl ?_ | (show Jo _ (.fieldAddr _ _ _); refine jy (yfield rfl (by first | exact fb88_2' | exact fb88_3' | exact fb88_4') rfl) rfl rfl ?_) | (show Jo _ (.load _ _); refine jy (yload (i := 0) rfl rfl rfl one3) rfl rfl ?_) | refine jas_ rfl rfl rfl ?_ | (show Jo _ (.binOp _ _ _ _ _); refine jy (yeql rfl rfl (by (exact decide_eq_true (by omega)))) rfl rfl ?_) | (show Jo _ (.call _); ((show Jo _ (.call ⟨.builtin .len, _, _⟩); refine jy (ylenl rfl und86') rfl rfl ?_))) | (show Jo _ (.box _ _); refine jbox rfl rfl rfl (fun gb hT => ?_)) | (show Jo _ (.slice 54 _ (some _) (some _) none); refine jy (yslLH (n := lo) (n' := hi) (kk := hi - lo) rfl rfl rfl und59 sz5 rfl rfl hlo (by omega) rfl rfl rfl) rfl rfl ?_)))
  exact ret1 rfl rfl rfl (fun w' hw' => ⟨_, rfl, (hB.sub lo (hi - lo) (by omega)).below (hw'.2.below (fun k _ h => h) (Nat.le_refl _)) (Nat.le_refl _), hw'.2.below (fun k _ h => h) (Nat.le_refl _)⟩)
theorem val1_calls {w : World} {s : T} {b o c ty l0 h0 lo hi fb cap : Nat} {A : Addr} {er st : Value} (h1 : er.oneCell' = true) (h2 : st.oneCell' = true) (hB : Byt w (.slice (some ⟨b, o, none⟩) s.length c) s) (hlo : lo ≤ hi) (hhi : hi ≤ s.length)
    (hA0 : w.cell? (A.add 0) = some (.int .i64 lo)) (hA1 : w.cell? (A.add 1) = some (.int .i64 hi)) :
    Calls Tryz.prog 79 #[.agg #[.int .i64 (ty : Nat), er, .int .i64 (l0 : Nat), .int .i64 (h0 : Nat), .slice (some A) 1 cap, .int .u8 (fb : Nat), st], .slice (some ⟨b, o, none⟩) s.length c] w fun e w' => ∃ v', e = .returned v' ∧ Byt w' v' (cut s lo hi) ∧ Below w.heap.size w w' := by
  have hcap : s.length ≤ c := by obtain ⟨b', o', c', he, hc, _⟩ := hB; cases he; exact hc
  refine enter (fun _ => False) 50 [] Tryz.func79 rfl rfl rfl (vs := [.agg #[.int .i64 (ty : Nat), er, .int .i64 (l0 : Nat), .int .i64 (h0 : Nat), .slice (some A) 1 cap, .int .u8 (fb : Nat), st], .slice (some ⟨b, o, none⟩) s.length c]) (Has.nil _) ?_
  conv => arg 2; arg 2; whnf
  repeat' (first | (show PJ _ (Code.wp _ _ _) _ _; first | refine cseq ?_ | refine rtext ?_ | refine ctrue rfl ?_ | refine cfalse rfl ?_ | refine cskip ?_ | refine cret ?_ | refine rquiet mixed (by kernel_rfl) ?_) | refine tret ?_ | refine jnil ?_ | (first | refine jmv rfl rfl rfl ?_ | (show Jo _ (.fieldAddr _ _ _); refine jy (yfield rfl (by first | exact fb88_0' | exact fb88_4' | exact fb126_1') rfl) rfl rfl ?_) | (show Jo _ (.load _ _); first | refine jy (yload (i := 0) rfl rfl rfl one3) rfl rfl ?_ | refine jy (yloadw rfl hA0 (fun h => h) one3) rfl rfl ?_ | refine jy (yloadw rfl hA1 (fun h => h) one3) rfl rfl ?_) | refine jas_ rfl rfl rfl ?_ | (show Jo _ (.binOp _ _ _ _ _); (refine jy (yeql rfl rfl (by first | exact decide_eq_true (by omega) | exact decide_eq_false (by omega))) rfl rfl ?_)) | (show Jo _ (.call _); ((show Jo _ (.call ⟨.builtin .len, _, _⟩); refine jy (ylenl rfl und86') rfl rfl ?_))) | (show Jo _ (.box _ _); refine jbox rfl rfl rfl (fun gb hT => ?_)) | (show Jo _ (.slice 54 _ (some _) (some _) none); refine jy (yslLH (n := lo) (n' := hi) (kk := hi - lo) rfl rfl rfl und59 sz5 rfl rfl hlo (by omega) rfl rfl rfl) rfl rfl ?_) | (show Jo _ (.indexAddr 68 _ _); refine jy (yat (p' := A.add 0) rfl rfl und86' sz126' (by omega) (by omega) rfl) rfl rfl ?_) | (show Jo _ (.fieldAddr 97 _ 0); refine jy (yfieldA (p' := A.add 0) rfl fb126_0' (by rw [add_add])) rfl rfl ?_) | (show Jo _ (.fieldAddr 97 _ 1); refine jy (yfieldA (p' := A.add 1) rfl fb126_1' (by rw [add_add])) rfl rfl ?_)))
  exact ret1 rfl rfl rfl (fun w' hw' => ⟨_, rfl, (hB.sub lo (hi - lo) (by omega)).below (hw'.2.below (fun k _ h => h) (Nat.le_refl _)) (Nat.le_refl _), hw'.2.below (fun k _ h => h) (Nat.le_refl _)⟩)
end Go.Proofs.YtkehggbmpdacpacGreatDoor.Pg
namespace Go.Proofs
open Go.Shelf
def Tryz.laysM183_ren : Go.Shelf.Ren := ⟨fun | 183 => 98 | n => n, fun | 130 => 133 | 37 => 54 | 0 => 0 | 93 => 120 | 3 => 3 | 5 => 5 | 91 => 118 | n => n, fun | n => n⟩
theorem Tryz.laysM183 : Go.Proofs.LaysM.n183 Tryz.prog Tryz.laysM183_ren := {
  mixed := by kernel_rfl
  f183 := Tryz.func98.trans (congrArg some (by kernel_rfl))
  t0 := Tryz.underlying0
  a0 := Tryz.isAgg0
  z0 := Tryz.sizeOf0
  v0 := Tryz.zeroValue0
  t3 := Tryz.underlying3
  a3 := Tryz.isAgg3
  z3 := Tryz.sizeOf3
  v3 := Tryz.zeroValue3
  t37 := Tryz.underlying54
  a37 := Tryz.isAgg54
  z37 := Tryz.sizeOf54
  v37 := Tryz.zeroValue54
  t93 := Tryz.underlying120
  a93 := Tryz.isAgg120
  z93 := Tryz.sizeOf120
  v93 := Tryz.zeroValue120
  t130 := Tryz.underlying133
  a130 := Tryz.isAgg133
  z130 := Tryz.sizeOf133
  v130 := Tryz.zeroValue133
  t5 := Tryz.underlying5
  a5 := Tryz.isAgg5
  z5 := Tryz.sizeOf5
  v5 := Tryz.zeroValue5
  t91 := Tryz.underlying118
  a91 := Tryz.isAgg118
  z91 := Tryz.sizeOf118
  v91 := Tryz.zeroValue118
  i0 := by kernel_rfl
  i3 := by kernel_rfl
  i5 := by kernel_rfl
  i37 := by kernel_rfl
  i91 := by kernel_rfl
  i93 := by kernel_rfl
  i130 := by kernel_rfl }
open Go.RowKit in
theorem Tryz.Buffer_Bytes (B b : Nat) (bs : List Value) (w : World) (h : Lib.IsBuffer 120 5 B b bs w) :
    Calls Tryz.prog 98 #[.pointer (some ⟨b, 0, none⟩)] w fun e w' => ∃ v, e = .returned v ∧ w'.ownsRow B 5 1 v bs.length bs ∧ ∃ n, w' = w.drewN n := Any.Buffer_Bytes Tryz.laysM183 B b bs w h
def Tryz.laysM180_ren : Go.Shelf.Ren := ⟨fun | 180 => 97 | 251 => 118 | 252 => 119 | 181 => 133 | 184 => 134 | 290 => 135 | 324 => 151 | n => n, fun | 130 => 133 | 37 => 54 | 3 => 3 | 75 => 61 | 0 => 0 | 93 => 120 | 91 => 118 | 131 => 134 | 4 => 4 | 20 => 20 | 5 => 5 | 80 => 168 | 9 => 9 | n => n, fun | 14 => 4 | n => n⟩
theorem Tryz.laysM180 : Go.Proofs.LaysM.n180 Tryz.prog Tryz.laysM180_ren := {
  mixed := by kernel_rfl
  f180 := Tryz.func97.trans (congrArg some (by kernel_rfl))
  f181 := Tryz.func133.trans (congrArg some (by kernel_rfl))
  f184 := Tryz.func134.trans (congrArg some (by kernel_rfl))
  f251 := Tryz.func118.trans (congrArg some (by kernel_rfl))
  f252 := Tryz.func119.trans (congrArg some (by kernel_rfl))
  f290 := Tryz.func135.trans (congrArg some (by kernel_rfl))
  f324 := Tryz.func151.trans (congrArg some (by kernel_rfl))
  t0 := Tryz.underlying0
  a0 := Tryz.isAgg0
  z0 := Tryz.sizeOf0
  v0 := Tryz.zeroValue0
  t3 := Tryz.underlying3
  a3 := Tryz.isAgg3
  z3 := Tryz.sizeOf3
  v3 := Tryz.zeroValue3
  t4 := Tryz.underlying4
  a4 := Tryz.isAgg4
  z4 := Tryz.sizeOf4
  v4 := Tryz.zeroValue4
  t20 := Tryz.underlying20
  a20 := Tryz.isAgg20
  z20 := Tryz.sizeOf20
  v20 := Tryz.zeroValue20
  t37 := Tryz.underlying54
  a37 := Tryz.isAgg54
  z37 := Tryz.sizeOf54
  v37 := Tryz.zeroValue54
  t75 := Tryz.underlying61
  a75 := Tryz.isAgg61
  z75 := Tryz.sizeOf61
  v75 := Tryz.zeroValue61
  t91 := Tryz.underlying118
  a91 := Tryz.isAgg118
  z91 := Tryz.sizeOf118
  v91 := Tryz.zeroValue118
  t93 := Tryz.underlying120
  a93 := Tryz.isAgg120
  z93 := Tryz.sizeOf120
  v93 := Tryz.zeroValue120
  t130 := Tryz.underlying133
  a130 := Tryz.isAgg133
  z130 := Tryz.sizeOf133
  v130 := Tryz.zeroValue133
  t131 := Tryz.underlying134
  a131 := Tryz.isAgg134
  z131 := Tryz.sizeOf134
  v131 := Tryz.zeroValue134
  g14 := by kernel_rfl
  t5 := Tryz.underlying5
  a5 := Tryz.isAgg5
  z5 := Tryz.sizeOf5
  v5 := Tryz.zeroValue5
  t9 := Tryz.underlying9
  a9 := Tryz.isAgg9
  z9 := Tryz.sizeOf9
  v9 := Tryz.zeroValue9
  t80 := Tryz.underlying168
  a80 := Tryz.isAgg168
  z80 := Tryz.sizeOf168
  v80 := Tryz.zeroValue168
  i0 := by kernel_rfl
  i3 := by kernel_rfl
  i4 := by kernel_rfl
  i5 := by kernel_rfl
  i9 := by kernel_rfl
  i20 := by kernel_rfl
  i37 := by kernel_rfl
  i75 := by kernel_rfl
  i80 := by kernel_rfl
  i91 := by kernel_rfl
  i93 := by kernel_rfl
  i130 := by kernel_rfl
  i131 := by kernel_rfl
  m14 := by kernel_rfl }
open Go.RowKit in
theorem Tryz.Buffer_Write_kept (B b : Nat) (bs cs : List Value) (a : Addr) (n c : Nat) (w : World) (h : Lib.IsBuffer 120 5 B b bs w) (hBw : B ≤ w.heap.size) (h1 : ∀ v ∈ bs, v.oneCell' = true) (hn : cs.length = n) (haB : a.block < B) (hsrc : ∀ j v, cs[j]? = some v → w.cell? (a.add j) = some v) (h1c : ∀ v ∈ cs, v.oneCell' = true) (hlim : bs.length + n ≤ 140737488355328) :
    Calls Tryz.prog 97 #[.pointer (some ⟨b, 0, none⟩), .slice (some a) n c] w fun e w' => e = .returned (.tuple #[.int .i64 n, .nilIface]) ∧ Lib.IsBuffer 120 5 B b (bs ++ cs) w' ∧ Below B w w' ∧ Lib.OthersKept 5 (some b) w w' := Any.Buffer_Write_kept Tryz.laysM180 B b bs cs a n c w h hBw h1 hn haB hsrc h1c hlim
end Go.Proofs
namespace Go.Proofs.YtkehggbmpdacpacGreatDoor.Pg
open Go.Rx hiding bt
open Go.RowKit Go.Proofs.YtkehggbmpdacpacGreatDoor.Dec0 Go.Proofs.YtkehggbmpdacpacGreatDoor.Lex0
theorem bo124 : bodyB Tryz.prog 97 = true := by kernel_rfl
theorem bo125 : bodyB Tryz.prog 98 = true := by kernel_rfl
def bufB (gb : Nat) (v : Value) (lr : Int) : Nat × List Value × Bk := (gb, [v, .int .i64 0, .int .i8 lr], Bk.c 120)
def bufM (gb : Nat) (r : Row) (bs : List Value) (lr : Int) (E : Mem) : Mem := bufB gb (r.val bs.length) lr :: (r.mem bs 5 ++ E)
def NoB (E : Mem) : Prop := ∀ x ∈ E, ∃ t, x.2.2 = Bk.c t ∧ t ≠ 5
theorem isBuf {B gb : Nat} {r : Row} {bs : List Value} {lr : Int} {E : Mem} {w : World} (h : Has (bufM gb r bs lr E) w) (hB : B ≤ gb) (hr : r.ok B 1 bs.length bs) : Lib.IsBuffer 120 5 B gb bs w := by
  have h0 : w.heap[gb]? = some (.cells #[r.val bs.length, .int .i64 0, .int .i8 lr] 120 (0, 0)) := h.blk _ (List.mem_cons_self ..)
  refine ⟨hB, r.val bs.length, lr, h0, ?_, ?_⟩
  · have hp : Has ((bufB gb (r.val bs.length) lr :: E) ++ r.mem bs 5) w := h.perm (List.Perm.cons _ List.perm_append_comm)
    exact Row.owns hr hp
  · cases r with
    | nil => simp [Row.val, Value.ownBlock]
    | «at» g cap rr =>
      have := h.ne
      simp only [bufM, bufB, Row.mem, List.map_cons, List.cons_append, List.nil_append, List.nodup_cons, List.mem_cons, not_or] at this
      simp only [Row.val, Value.ownBlock, ne_eq, Option.some.injEq]
      exact fun e => this.1.1 e.symm
theorem buf_of {B gb : Nat} {r : Row} {bs bs' : List Value} {lr : Int} {E : Mem} {w w' : World} (h : Has (bufM gb r bs lr E) w) (hE : NoB E) (hk : Lib.OthersKept 5 (some gb) w w') (hb : Lib.IsBuffer 120 5 B gb bs' w') : ∃ (r' : Row) (lr' : Int), Has (bufM gb r' bs' lr' E) w' ∧ r'.ok B 1 bs'.length bs' := by
  obtain ⟨_, v, lr', h1, h2, h3⟩ := hb
  obtain ⟨r', rfl, hr', hm⟩ := Row.of_owns h2
  have hEk : ∀ x ∈ E, BlkAt w' x.1 x.2.1 x.2.2 := fun x hx => by
    obtain ⟨t, ht, hne⟩ := hE x hx
    have h4 := h.blk x (List.mem_cons_of_mem _ (List.mem_append_right _ hx))
    rw [ht] at h4 ⊢
    refine hk x.1 _ h4 ?_ (fun c fz e => ?_)
    · have := h.ne
      simp only [bufM, bufB, List.map_cons, List.nodup_cons, List.map_append, List.mem_append, not_or] at this
      intro e
      rw [Option.some.injEq] at e
      exact this.1.2 (List.mem_map.2 ⟨x, hx, e⟩)
    · injection e with _ e2 _
      exact hne e2
  refine ⟨r', lr', ⟨?_, fun x hx => ?_⟩, hr'⟩
  · have hn := h.ne
    simp only [bufM, bufB, List.map_cons, List.nodup_cons, List.map_append, List.mem_append, not_or] at hn ⊢
    have hEn : (E.map (·.1)).Nodup := (List.nodup_append.1 hn.2).2.1
    refine ⟨⟨?_, hn.1.2⟩, ?_⟩
    · cases r' with
      | nil => simp [Row.mem]
      | «at» g cap rr =>
        simp only [Row.val, Value.ownBlock, ne_eq, Option.some.injEq] at h3
        simp only [Row.mem, List.map_cons, List.map_nil, List.mem_singleton]
        exact fun e => h3 e.symm
    · cases r' with
      | nil => simpa [Row.mem] using hEn
      | «at» g cap rr =>
        simp only [Row.mem, List.map_cons, List.map_nil, List.singleton_append, List.nodup_cons]
        refine ⟨fun hg => ?_, hEn⟩
        obtain ⟨x, hx, e⟩ := List.mem_map.1 hg
        obtain ⟨t, ht, hne⟩ := hE x hx
        have h5 := hEk x hx
        rw [ht, e] at h5
        have h6 : w'.heap[g]? = some (.cells (bs' ++ rr).toArray 5 (0, 0)) := hm (g, bs' ++ rr, Bk.c 5) (List.mem_singleton.2 rfl)
        have h7 : w'.heap[g]? = some (.cells x.2.1.toArray t (0, 0)) := h5
        rw [h6] at h7
        injection h7 with h7
        injection h7 with _ h8 _
        exact hne h8.symm
  · rcases List.mem_cons.1 hx with rfl | hx
    · exact h1
    · rcases List.mem_append.1 hx with hx | hx
      · exact hm x hx
      · exact hEk x hx
theorem write_calls {X : Cx} {gb : Nat} {r : Row} {bs cs : List Value} {lr : Int} {E : Mem} {a : Addr} {n c : Nat} (hE : NoB E) (hgb : X.w0.heap.size ≤ gb) (hr : r.ok X.w0.heap.size 1 bs.length bs) (h1 : ∀ v ∈ bs, v.oneCell' = true) (hn : cs.length = n) (ha : a.block < X.w0.heap.size) (hS : ¬ X.S a.block) (hsrc : ∀ (j : Nat) v, cs[j]? = some v → X.w0.cell? (a.add j) = some v) (h1c : ∀ v ∈ cs, v.oneCell' = true) (hlim : bs.length + n ≤ 140737488355328) :
    ∀ w, Cl X (bufM gb r bs lr E) w → Calls Tryz.prog 97 #[.pointer (some ⟨gb, 0, none⟩), .slice (some a) n c] w fun e w' => ∃ i : Row × Int, e = .returned (.tuple #[.int .i64 n, .nilIface]) ∧ Cl X (bufM gb i.1 (bs ++ cs) i.2 E) w' ∧ i.1.ok X.w0.heap.size 1 (bs ++ cs).length (bs ++ cs) := by
  intro w hw
  refine (Tryz.Buffer_Write_kept X.w0.heap.size gb bs cs a n c w (isBuf hw.1 hgb hr) hw.2.size h1 hn ha (fun j v hj => ?_) h1c hlim).mono fun e w' ⟨e1, e2, e3, e4⟩ => ?_
  · exact Go.Rx.cell_evo hw.2 (by rw [add_block]; exact hS) (hsrc j v hj)
  · obtain ⟨r', lr', h5, h6⟩ := buf_of hw.1 hE e4 e2
    refine ⟨(r', lr'), e1, ⟨h5, ?_⟩, h6⟩
    have h7 : Evo X.S X.w0 w := hw.2
    exact ⟨e3.os.trans h7.os, e3.tape.trans h7.tape, e3.output.trans h7.output, Nat.le_trans h7.size e3.size, fun k hk hs => (e3.block k hk).trans (h7.block k hk hs)⟩
theorem bufBytes_calls {X : Cx} {gb : Nat} {r : Row} {bs : List Value} {lr : Int} {E : Mem} (hE : NoB E) (hgb : X.w0.heap.size ≤ gb) (hr : r.ok X.w0.heap.size 1 bs.length bs) :
    ∀ w, Cl X (bufM gb r bs lr E) w → Calls Tryz.prog 98 #[.pointer (some ⟨gb, 0, none⟩)] w fun e w' => ∃ r' : Row, e = .returned (r'.val bs.length) ∧ Cl X (r'.mem bs 5) w' ∧ r'.ok X.w0.heap.size 1 bs.length bs := by
  intro w hw
  refine (Tryz.Buffer_Bytes X.w0.heap.size gb bs w (isBuf hw.1 hgb hr)).mono fun e w' ⟨v, e1, e2, n, e3⟩ => ?_
  obtain ⟨r', rfl, h2, h3⟩ := Row.of_owns e2
  refine ⟨r', e1, ⟨⟨?_, h3⟩, ?_⟩, h2⟩
  · cases r' <;> simp [Row.mem]
  · subst e3
    have h7 : Evo X.S X.w0 w := hw.2
    exact ⟨h7.os, h7.tape, h7.output, h7.size, h7.block⟩
def SegCh (n : Nat) : Nat → List (Nat × Nat) → Prop
  | a, [] => a ≤ n
  | a, p :: r => a ≤ p.1 ∧ p.1 ≤ p.2 ∧ SegCh n p.2 r
theorem SegCh.le {n : Nat} : ∀ {segs : List (Nat × Nat)} {a : Nat}, SegCh n a segs → a ≤ n
  | [], a, h => h
  | p :: r, a, h => by have := SegCh.le h.2.2; have := h.1; have := h.2.1; omega
theorem SegCh.mem {n : Nat} : ∀ {segs : List (Nat × Nat)} {a : Nat}, SegCh n a segs → ∀ p ∈ segs, p.1 ≤ p.2 ∧ p.2 ≤ n
  | [], a, h, p, hp => by cases hp
  | q :: r, a, h, p, hp => by
    rcases List.mem_cons.1 hp with rfl | hp
    · exact ⟨h.2.1, SegCh.le h.2.2⟩
    · exact SegCh.mem h.2.2 p hp
def segT (s : T) (segs : List (Nat × Nat)) : T := segs.flatMap fun p => cut s p.1 p.2
theorem segT_len {s : T} : ∀ {segs : List (Nat × Nat)} {a : Nat}, SegCh s.length a segs → (segT s segs).length + a ≤ s.length
  | [], a, h => by
    show 0 + a ≤ _
    have : a ≤ s.length := h
    omega
  | p :: r, a, h => by
    have h1 := segT_len h.2.2
    have h2 := SegCh.le h.2.2
    have h3 := h.1
    have h4 := h.2.1
    unfold segT at h1 ⊢
    rw [List.flatMap_cons, List.length_append, cut_len h2]
    omega
theorem segT_take {s : T} {segs : List (Nat × Nat)} {j : Nat} {p : Nat × Nat} (h : segs[j]? = some p) : segT s (segs.take (j + 1)) = segT s (segs.take j) ++ cut s p.1 p.2 := by
  obtain ⟨hlt, he⟩ := List.getElem?_eq_some_iff.1 h
  unfold segT
  rw [← List.take_append_getElem hlt, List.flatMap_append, he]
  simp
theorem segT_pre {s : T} {segs : List (Nat × Nat)} (j : Nat) : (segT s (segs.take j)).length ≤ (segT s segs).length := by
  have : segT s segs = segT s (segs.take j) ++ segT s (segs.drop j) := by unfold segT; rw [← List.flatMap_append, List.take_append_drop]
  rw [this, List.length_append]
  omega
theorem segC_at : ∀ {segs : List (Nat × Nat)} {j : Nat} {p : Nat × Nat}, segs[j]? = some p → (segC segs)[2 * j]? = some (.int .i64 p.1) ∧ (segC segs)[2 * j + 1]? = some (.int .i64 p.2)
  | [], j, p, h => by simp at h
  | q :: r, 0, p, h => by
    obtain rfl : q = p := by simpa using h
    exact ⟨rfl, rfl⟩
  | q :: r, j + 1, p, h => by
    have := segC_at (segs := r) (j := j) (p := p) (by simpa using h)
    rw [show 2 * (j + 1) = (2 * j) + 1 + 1 from by omega, show 2 * j + 1 + 1 + 1 = (2 * j + 1) + 1 + 1 from rfl]
    exact ⟨this.1, this.2⟩
theorem ze148 : (Tryz.prog.info? 120).bind (·.zero) = some (.agg #[.slice none 0 0, .int .i64 0, .int .i8 0]) := by kernel_rfl
theorem ze126' : (Tryz.prog.info? 97).bind (·.zero) = some (.agg #[.int .i64 0, .int .i64 0]) := by kernel_rfl
theorem ag126' : aggB Tryz.prog 97 2 = true := by kernel_rfl
theorem sl_some {b o c lo : Nat} : ∃ a : Addr, a.block = b ∧ (if c = lo then some (⟨b, o, none⟩ : Addr) else (some (⟨b, o, none⟩ : Addr)).map (·.add (lo * 1))) = some a := by
  split
  · exact ⟨_, rfl, rfl⟩
  · exact ⟨_, add_block _ _, rfl⟩
theorem byt_cells {w : World} {a : Addr} {k c : Nat} {l : T} (h : Byt w (.slice (some a) k c) l) : k = l.length ∧ ∀ (j : Nat) v, (bytesL l)[j]? = some v → w.cell? (a.add j) = some v := by
  obtain ⟨b, o, c', e, hc, hcell⟩ := h
  injection e with e1 e2 e3
  injection e1 with e1
  subst e1
  refine ⟨e2, fun j v hv => ?_⟩
  unfold bytesL at hv
  rw [List.getElem?_map] at hv
  cases hx : l[j]? with
  | none => rw [hx] at hv; cases hv
  | some x =>
    rw [hx] at hv
    obtain rfl := Option.some.inj hv
    rw [add_at]
    exact hcell j x hx
end Go.Proofs.YtkehggbmpdacpacGreatDoor.Pg
