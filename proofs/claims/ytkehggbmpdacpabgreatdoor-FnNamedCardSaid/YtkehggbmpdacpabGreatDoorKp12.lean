/- The page laws: texts that all of them use, joined (part 12): Pg37, Pg38, Pg39, Lex6, Pg40, Pg41. -/
import Derived.Test.YtkehggbmpdacpabGreatDoorKp10
import Derived.Test.YtkehggbmpdacpabGreatDoorKp11
set_option maxRecDepth 100000
set_option linter.unusedVariables false
set_option linter.unusedSimpArgs false
set_option linter.unusedSectionVars false
namespace Go.Proofs.YtkehggbmpdacpabGreatDoor.Pg
open Go.Rx hiding bt
open Go.RowKit Go.Proofs.YtkehggbmpdacpabGreatDoor.Dec0 Go.Proofs.YtkehggbmpdacpabGreatDoor.Lex0
theorem bo123 : bodyB Tryz.prog 101 = true := by kernel_rfl
theorem fb83_1 : fieldB Tryz.prog 73 1 = some 1 := by kernel_rfl
theorem gr133 : growB Tryz.prog 110 114 1 8 = true := by kernel_rfl
theorem ze137 : ((Tryz.prog.info? 114).bind (·.zero)).map (·.cells) = some [Value.pointer none].toArray := by kernel_rfl
theorem ze3 : ((Tryz.prog.info? 3).bind (·.zero)).map (·.cells) = some [Value.int .i64 0].toArray := by kernel_rfl
theorem bu142 (g k k' : Nat) : Tryz.prog.built 119 [(0, .pointer (some ⟨g, 0, none⟩)), (2, fnV k), (3, fnV k')] = some [.pointer (some ⟨g, 0, none⟩), .bool false, fnV k, fnV k'].toArray := by kernel_rfl
theorem bu136 (g gh gk n c n' c' : Nat) : Tryz.prog.built 113 [(0, .pointer (some ⟨g, 0, none⟩)), (2, .slice (some ⟨gh, 0, none⟩) n c), (3, .slice (some ⟨gk, 0, none⟩) n' c')] = some [.pointer (some ⟨g, 0, none⟩), .bool false, .slice (some ⟨gh, 0, none⟩) n c, .slice (some ⟨gk, 0, none⟩) n' c'].toArray := by kernel_rfl
theorem one_ptr {a : Option Addr} : ∀ u ∈ [Value.pointer a], u.oneCell' = true := fun u hu => by
  rw [List.mem_singleton.1 hu]
  rfl
@[reducible] def hdS (H : Hd) (gS : Nat) : Hd := { H with gS := gS }
set_option maxHeartbeats 1000000 in
theorem sects_calls {X : Cx} {H : Hd} {c : List Value} {E : Mem} (hnd : nth c 8 = some (.bool H.nd)) : ∀ w, Cl X ((H.gL, c, .c 92) :: E) w → Calls Tryz.prog 101 #[pL H] w fun e w' => ∃ (gS : Nat) (S : Sec), e = .returned (.pointer (some ⟨gS, 0, none⟩)) ∧ Cl X (secM (hdS H gS) S ++ (H.gL, c, .c 92) :: E) w' ∧ SecMay X (hdS H gS) S ∧ S.dv = !H.nd ∧ S.all = false ∧ S.s1 = false ∧ S.s2 = false ∧ S.kc = (bif S.dv then 2 else 1) := by
  intro w hw
  refine enterC 34 hw Tryz.func101 rfl rfl (vs := [pL H]) rfl ?_
  conv => arg 2; arg 2; whnf
  rcases (Bool.eq_false_or_eq_true H.nd).symm with hv | hv
  · rw [hv] at hnd ⊢
    repeat' (first | refine cseq ?_ | refine rtext ?_ | refine ctrue rfl ?_ | refine cret ?_ | refine jnil ?_ | (first | refine jmv rfl rfl rfl ?_ | refine jy (ynil rfl) rfl rfl ?_ | (show Jo _ (.fieldAddr _ _ _); refine jy (yfield rfl (by first | exact fb110_7 | exact fb83_1) rfl) rfl rfl ?_) | (show Jo _ (.load _ _); refine jy (yload (i := 3) rfl rfl (by exact hnd) one4) rfl rfl ?_) | refine jas_ rfl rfl rfl ?_ | refine jy (ynot rfl rfl) rfl rfl ?_ | (show Jo _ (.call _); first | (show Jo (some 30) (.call ⟨.builtin .len, _, _⟩); refine jy (ylenl rfl und133) rfl rfl ?_) | (show Jo (some 13) (.call ⟨.builtin .append, _, _⟩); refine jappendIn (i := 2) (size := 1) (n := 0) (k := 1) (cap := 2) (c := [.pointer none, .pointer none]) (news := [.pointer (some ⟨g1, 0, none⟩)]) rfl rfl rfl (src_blk (i := 0) 0 rfl (add_zero _) (fun j u hj => by rw [Nat.zero_add]; exact hj)) rfl one_ptr (.inr hgh) gr133 (by omega) (by simp) (c' := [.pointer (some ⟨g1, 0, none⟩), .pointer none]) rfl rfl ?_) | (show Jo (some 26) (.call ⟨.builtin .append, _, _⟩); refine jappendIn (i := 4) (size := 1) (n := 1) (k := 1) (cap := 2) (c := [.pointer (some ⟨g1, 0, none⟩), .pointer none]) (news := [.pointer (some ⟨g2, 0, none⟩)]) rfl rfl rfl (src_blk (i := 0) 0 rfl (add_zero _) (fun j u hj => by rw [Nat.zero_add]; exact hj)) rfl one_ptr (.inr hgh) gr133 (by omega) (by simp) (c' := [.pointer (some ⟨g1, 0, none⟩), .pointer (some ⟨g2, 0, none⟩)]) rfl rfl ?_)) | (show Jo (some 6) (.makeSlice _ _ _); refine jmakeC (l := 0) (n := 2) [.pointer none] rfl rfl rfl rfl (by omega) gr133 ze137 rfl (by omega) (by omega) rfl (fun gh hgh => ?_)) | (show Jo (some 8) (.build _ _); refine jy (ybuild rfl (bu142 H.gL 112 115)) rfl rfl ?_) | (show Jo (some 21) (.build _ _); refine jy (ybuild rfl (bu142 H.gL 120 121)) rfl rfl ?_) | (show Jo (some 9) (.box _ _); refine jbox rfl rfl rfl (fun g1 hg1 => ?_)) | (show Jo (some 22) (.box _ _); refine jbox rfl rfl rfl (fun g2 hg2 => ?_)) | (show Jo (some 33) (.box _ _); refine jbox rfl rfl rfl (fun gS hgS => ?_)) | (show Jo (some 12) (.buildSlice _ _ _); refine jlitN (n := 1) (vs := [.pointer (some ⟨g1, 0, none⟩)]) rfl rfl rfl rfl gr133 rfl rfl rfl rfl (fun gl1 hT => ?_)) | (show Jo (some 25) (.buildSlice _ _ _); refine jlitN (n := 1) (vs := [.pointer (some ⟨g2, 0, none⟩)]) rfl rfl rfl rfl gr133 rfl rfl rfl rfl (fun gl2 hT => ?_)) | (show Jo (some 31) (.makeSlice _ _ _); refine jmakeC (l := 2) (n := 2) [.int .i64 0] rfl rfl rfl rfl (by omega) gr134 ze3 rfl (by omega) (by omega) rfl (fun gk hgk => ?_)) | (show Jo (some 32) (.build _ _); refine jy (ybuild rfl (bu136 H.gL gh gk 2 2 2 2)) rfl rfl ?_)))
    refine ret1 rfl rfl rfl (fun w' hw' => ⟨gS, ⟨gh, g1, g2, gk, 2, 2, [.int .i64 0, .int .i64 0], true, false, false, false⟩, rfl, ?_, ⟨Cx.may_up hw (.inr hgS), Cx.may_up hw (.inr hg1), Cx.may_up hw (.inr hg2), Cx.may_up hw (.inr hgk), rfl, (show _ ≤ maxLen by simp only [maxLen]; omega)⟩, rfl, rfl, rfl, rfl, rfl⟩)
    exact (hw.up hw').pickA (A := [_, _, _, _, _, _, _]) (B := [_, _, _, _, _]) [0, 6, 5, 1, 3] (by decide) rfl
  · rw [hv] at hnd ⊢
    repeat' (first | refine cseq ?_ | refine rtext ?_ | refine cfalse rfl ?_ | refine cskip ?_ | refine cret ?_ | refine jnil ?_ | (first | refine jmv rfl rfl rfl ?_ | refine jy (ynil rfl) rfl rfl ?_ | (show Jo _ (.fieldAddr _ _ _); refine jy (yfield rfl (by first | exact fb110_7 | exact fb83_1) rfl) rfl rfl ?_) | (show Jo _ (.load _ _); refine jy (yload (i := 3) rfl rfl (by exact hnd) one4) rfl rfl ?_) | refine jas_ rfl rfl rfl ?_ | refine jy (ynot rfl rfl) rfl rfl ?_ | (show Jo _ (.call _); first | (show Jo (some 30) (.call ⟨.builtin .len, _, _⟩); refine jy (ylenl rfl und133) rfl rfl ?_) | (show Jo (some 13) (.call ⟨.builtin .append, _, _⟩); refine jappendIn (i := 2) (size := 1) (n := 0) (k := 1) (cap := 2) (c := [.pointer none, .pointer none]) (news := [.pointer (some ⟨g1, 0, none⟩)]) rfl rfl rfl (src_blk (i := 0) 0 rfl (add_zero _) (fun j u hj => by rw [Nat.zero_add]; exact hj)) rfl one_ptr (.inr hgh) gr133 (by omega) (by simp) (c' := [.pointer (some ⟨g1, 0, none⟩), .pointer none]) rfl rfl ?_)) | (show Jo (some 6) (.makeSlice _ _ _); refine jmakeC (l := 0) (n := 2) [.pointer none] rfl rfl rfl rfl (by omega) gr133 ze137 rfl (by omega) (by omega) rfl (fun gh hgh => ?_)) | (show Jo (some 8) (.build _ _); refine jy (ybuild rfl (bu142 H.gL 112 115)) rfl rfl ?_) | (show Jo (some 9) (.box _ _); refine jbox rfl rfl rfl (fun g1 hg1 => ?_)) | (show Jo (some 33) (.box _ _); refine jbox rfl rfl rfl (fun gS hgS => ?_)) | (show Jo (some 12) (.buildSlice _ _ _); refine jlitN (n := 1) (vs := [.pointer (some ⟨g1, 0, none⟩)]) rfl rfl rfl rfl gr133 rfl rfl rfl rfl (fun gl1 hT => ?_)) | (show Jo (some 31) (.makeSlice _ _ _); refine jmakeC (l := 1) (n := 1) [.int .i64 0] rfl rfl rfl rfl (by omega) gr134 ze3 rfl (by omega) (by omega) rfl (fun gk hgk => ?_)) | (show Jo (some 32) (.build _ _); refine jy (ybuild rfl (bu136 H.gL gh gk 1 2 1 1)) rfl rfl ?_)))
    refine ret1 rfl rfl rfl (fun w' hw' => ⟨gS, ⟨gh, g1, g1, gk, 1, 1, [.int .i64 0], false, false, false, false⟩, rfl, ?_, ⟨Cx.may_up hw (.inr hgS), Cx.may_up hw (.inr hg1), Cx.may_up hw (.inr hg1), Cx.may_up hw (.inr hgk), rfl, (show _ ≤ maxLen by simp only [maxLen]; omega)⟩, rfl, rfl, rfl, rfl, rfl⟩)
    exact (hw.up hw').pickA (A := [_, _, _, _, _]) (B := [_, _, _, _]) [0, 4, 3, 1] (by decide) rfl
theorem bo105 : bodyB Tryz.prog 85 = true := by kernel_rfl
theorem agg83 : aggB Tryz.prog 73 2 = true := by kernel_rfl
theorem gr76 : growB Tryz.prog 66 78 7 72 = true := by kernel_rfl
def zItm : List Value := [.int .i64 0, .nilIface, .int .i64 0, .int .i64 0, .slice none 0 0, .int .u8 0, .bool false]
theorem ze88 : ((Tryz.prog.info? 78).bind (·.zero)).map (·.cells) = some zItm.toArray := by kernel_rfl
theorem bu108 (g : Nat) : Tryz.prog.built 90 [(0, .int .i64 8), (1, .int .i64 9), (7, .map (some g))] = some [.int .i64 8, .int .i64 9, .bool false, .string ⟨#[]⟩, .int .i64 0, .int .i64 0, .int .i64 0, .map (some g)].toArray := by kernel_rfl
theorem bu110 (gI n c k gd gM gR : Nat) (a b : Bool) (m : Nat) : Tryz.prog.built 92 [(0, .slice (some ⟨gI, 0, none⟩) n c), (1, fnV k), (8, .slice (some ⟨gd, 0, none⟩) 11 11), (7, .agg #[.bool a, .bool b]), (10, .agg #[.int .i64 8, .int .i64 9, .bool false, .string ⟨#[]⟩, .int .i64 0, .int .i64 0, .int .i64 0, .map (some gM)]), (11, .slice (some ⟨gR, 0, none⟩) 0 5)] = some [.slice (some ⟨gI, 0, none⟩) n c, fnV k, .nilFunc, .int .i64 0, .int .i64 0, .int .i64 0, .pointer none, .bool a, .bool b, .slice (some ⟨gd, 0, none⟩) 11 11, .bool false, .int .i64 8, .int .i64 9, .bool false, .string ⟨#[]⟩, .int .i64 0, .int .i64 0, .int .i64 0, .map (some gM), .slice (some ⟨gR, 0, none⟩) 0 5, .nilIface].toArray := by kernel_rfl
theorem si105 : (Tryz.prog.info? 87).map (·.size) = some 1 := by kernel_rfl
@[reducible] def hdN (H0 : Hd) (gL gM gS : Nat) : Hd := { H0 with gL := gL, gM := gM, gS := gS }
def NewR (X : Cx) (H0 : Hd) (e : Ending) (w' : World) : Prop := ∃ (H : Hd) (q : RS) (S : Sec) (gd : Nat), e = .returned (pL H) ∧ Cl X (cM H lx0 .nilFunc 0 gd q (secM H S) []) w' ∧ iB H = iB H0 ∧ H.s = H0.s ∧ H.st0 = H0.st0 ∧ H.nd = H0.nd ∧ Ok X H ∧ QOk X q ∧ q.n = 0 ∧ q.ics = [] ∧ SecMay X H S ∧ SecOk H.s lx0 S ∧ S.dv = !H.nd ∧ S.all = false ∧ S.s1 = false ∧ S.s2 = false
set_option maxHeartbeats 4000000 in
theorem new_calls {X : Cx} {H0 : Hd} (k0 : Nat) (hst : H0.st0 = fnV k0) (hW : ∃ W, Bs W X ∧ Tab W) (hsz : H0.s.length ≤ H0.cap) (hbig : H0.s.length ≤ 35184372088832) {E : Mem} : ∀ w, Cl X (iB H0 :: E) w → Calls Tryz.prog 85 #[.slice (some ⟨H0.gI, 0, none⟩) H0.s.length H0.cap, fnV k0, .agg #[.bool H0.nf, .bool H0.nd]] w (NewR X H0) := by
  intro w hw
  replace hw : Cl X [iB H0] w := hw.less (List.Sublist.cons_cons _ (List.nil_sublist _))
  refine enterC 23 hw Tryz.func85 rfl rfl (vs := [.slice (some ⟨H0.gI, 0, none⟩) H0.s.length H0.cap, fnV k0, .agg #[.bool H0.nf, .bool H0.nd]]) rfl ?_
  have hsec : ∀ (gL gM : Nat) (c : List Value) (R : Mem), nth c 8 = some (.bool H0.nd) → ∀ w', Cl (X.sub 23 w) ((gL, c, .c 92) :: R) w' → Calls Tryz.prog 101 #[.pointer (some ⟨gL, 0, none⟩)] w' fun e w'' => ∃ i : Nat × Sec, e = .returned (.pointer (some ⟨i.1, 0, none⟩)) ∧ Cl (X.sub 23 w) ((gL, c, .c 92) :: (secM (hdN H0 gL gM i.1) i.2 ++ R)) w'' ∧ (SecMay (X.sub 23 w) (hdN H0 gL gM i.1) i.2 ∧ i.2.dv = !H0.nd ∧ i.2.all = false ∧ i.2.s1 = false ∧ i.2.s2 = false ∧ i.2.kc = (bif i.2.dv then 2 else 1)) := fun gL gM c R hc w' hw' =>
    (sects_calls (H := hdN H0 gL gM 0) hc w' hw').mono fun e w'' ⟨gS, S, h1, h2, h3⟩ => ⟨(gS, S), h1, h2.perm List.perm_middle, h3⟩
  conv => arg 2; arg 2; whnf
  repeat' (first | first | (show PJ _ (Code.wp _ _ _) _ _; first | refine cseq ?_ | refine rtext ?_ | refine cret ?_ | (show PJ _ (Code.wp _ (Code.region 1 _ true) _) _ _; refine rany [(gC, [.bool H0.nf, .bool H0.nd], .c 73), iB H0] mixed ?_)) | refine jnil ?_ | (first | refine jmv rfl rfl rfl ?_ | refine jy (ynil rfl) rfl rfl ?_ | (show Jo _ (.fieldAddr _ _ _); refine jy (yfield rfl fb110_6 rfl) rfl rfl ?_) | refine jas_ rfl rfl rfl ?_ | (show Jo _ (.store _ _ _); refine jstore (i := 0) rfl rfl rfl rfl rfl si105 (.inr hgL) ?_) | (show Jo _ (.call _); first | (show Jo (some 10) (.call _); refine jcall (ι := Nat) _ bo122 rfl rfl rfl (fun w' hw' => fresh122 _ _ w' hw') (fun gd hgd => ?_)) | (show Jo (some 19) (.call _); refine jcall (ι := Nat × Sec) (vs := [.pointer (some ⟨gL, 0, none⟩)]) _ bo123 rfl rfl rfl (hsec gL gM _ _ rfl) (fun gs hgs => ?_))) | (show Jo (some 5) (.box _ _); refine jbox rfl rfl rfl (fun gC hgC => ?_)) | (show Jo (some 16) (.box _ _); refine jbox rfl rfl rfl (fun gL hgL => ?_)) | (show Jo (some 12) (.makeMap _ _); refine jmakeMap rfl (fun gM hgM => ?_)) | (show Jo (some 13) (.makeSlice _ _ _); refine jmakeC (l := 0) (n := 5) zItm rfl rfl rfl rfl (by omega) gr76 ze88 rfl (by omega) (by omega) rfl (fun gR hgR => ?_))) | first | (show JT _ _ _ _ _ _ [] _ _; refine jtnil ?_) | (first | (show JTo _ (.move _); refine jty (ymove rfl) rfl rfl ?_) | (show JTo _ (.load _ _); refine jty (yloads (i := 0) rfl rfl agg83) rfl rfl ?_) | (show JTo _ (.assign _); refine jty (yassign rfl) rfl rfl ?_) | (show JTo (some 14) (.build _ _); refine jty (ybuild rfl (bu108 gM)) rfl rfl ?_) | (show JTo (some 15) (.build _ _); refine jty (ybuild rfl (bu110 H0.gI H0.s.length H0.cap k0 gd gM gR H0.nf H0.nd 0)) rfl rfl ?_)) | first | (show PJ _ (WKeep _ _ _) _ _; refine jas (fun _ h => h.less (by repeat (first | exact List.Sublist.refl _ | refine List.Sublist.cons _ ?_))) ?_) | (show PJ _ (WIf _ _ _) _ _; refine jaw ?_) | (show PJ _ (WAny _ _ _ _ _ _ _) _ _; first | refine jaq (g' := 7) (D := []) [0, 1, 3] rfl (fun _ h => h.less (by repeat ((exact List.Sublist.refl _)))) (by kernel_rfl) (by kernel_rfl) rfl (fun _ d _ _ _ h => by cases d <;> exact h) rfl ?_ | refine ja3 (g' := 6) (D := [0, 1, 3]) 2 4 5 rfl rfl rfl rfl (by kernel_rfl) rfl rfl rfl ?_ ?_ ?_ | refine ja2 (g' := 5) (D := [0, 1, 3, 2]) 4 5 rfl rfl rfl (by kernel_rfl) rfl rfl ?_ ?_ | refine jaq (g' := 4) (D := [0, 1, 3, 2, 4]) [6] rfl (fun _ h => h.less (by repeat (first | exact List.Sublist.refl _ | refine List.Sublist.cons _ ?_))) (by kernel_rfl) (by kernel_rfl) rfl (fun _ d _ _ _ h => by cases d <;> exact h) rfl ?_ | refine ja1 (g' := 3) (D := [0, 1, 3, 2, 4, 6]) 5 rfl rfl (by kernel_rfl) rfl ?_ | refine jaq (g' := 2) (D := [0, 1, 3, 2, 4, 6, 5]) [7] rfl (fun _ h => h.less (by repeat (first | exact List.Sublist.refl _ | refine List.Sublist.cons _ ?_))) (by kernel_rfl) (by kernel_rfl) rfl (fun _ d _ _ _ h => by cases d <;> exact h) rfl ?_ | refine ja1 (g' := 1) (D := [0, 1, 3, 2, 4, 6, 5, 7]) 8 rfl rfl (by kernel_rfl) rfl ?_ | refine jaq (g' := 0) (D := [0, 1, 3, 2, 4, 6, 5, 7, 8]) [9] rfl (fun _ h => h.less (by repeat (first | exact List.Sublist.refl _ | refine List.Sublist.cons _ ?_))) (by kernel_rfl) (by kernel_rfl) rfl (fun _ d _ _ _ h => by cases d <;> exact h) rfl ?_ | refine ja1 (g' := 4) (D := [0, 1, 3, 2, 5]) 4 rfl rfl (by kernel_rfl) rfl ?_ | refine jaq (g' := 2) (D := [0, 1, 3, 2, 5, 4]) [6, 7] rfl (fun _ h => h.less (by repeat (first | exact List.Sublist.refl _ | refine List.Sublist.cons _ ?_))) (by kernel_rfl) (by kernel_rfl) rfl (fun _ d _ _ _ h => by cases d <;> exact h) rfl ?_ | refine ja1 (g' := 1) (D := [0, 1, 3, 2, 5, 4, 6, 7]) 8 rfl rfl (by kernel_rfl) rfl ?_ | refine jaq (g' := 0) (D := [0, 1, 3, 2, 5, 4, 6, 7, 8]) [9] rfl (fun _ h => h.less (by repeat (first | exact List.Sublist.refl _ | refine List.Sublist.cons _ ?_))) (by kernel_rfl) (by kernel_rfl) rfl (fun _ d _ _ _ h => by cases d <;> exact h) rfl ?_ | refine jaq (g' := 5) (D := [0, 1, 3, 4]) [6] rfl (fun _ h => h.less (by repeat (first | exact List.Sublist.refl _ | refine List.Sublist.cons _ ?_))) (by kernel_rfl) (by kernel_rfl) rfl (fun _ d _ _ _ h => by cases d <;> exact h) rfl ?_ | refine ja2 (g' := 4) (D := [0, 1, 3, 4, 6]) 2 5 rfl rfl rfl (by kernel_rfl) rfl rfl ?_ ?_ | refine ja1 (g' := 3) (D := [0, 1, 3, 4, 6, 2]) 5 rfl rfl (by kernel_rfl) rfl ?_ | refine jaq (g' := 2) (D := [0, 1, 3, 4, 6, 2, 5]) [7] rfl (fun _ h => h.less (by repeat (first | exact List.Sublist.refl _ | refine List.Sublist.cons _ ?_))) (by kernel_rfl) (by kernel_rfl) rfl (fun _ d _ _ _ h => by cases d <;> exact h) rfl ?_ | refine ja1 (g' := 1) (D := [0, 1, 3, 4, 6, 2, 5, 7]) 8 rfl rfl (by kernel_rfl) rfl ?_ | refine jaq (g' := 0) (D := [0, 1, 3, 4, 6, 2, 5, 7, 8]) [9] rfl (fun _ h => h.less (by repeat (first | exact List.Sublist.refl _ | refine List.Sublist.cons _ ?_))) (by kernel_rfl) (by kernel_rfl) rfl (fun _ d _ _ _ h => by cases d <;> exact h) rfl ?_ | refine ja1 (g' := 3) (D := [0, 1, 3, 4, 6, 5]) 2 rfl rfl (by kernel_rfl) rfl ?_ | refine jaq (g' := 2) (D := [0, 1, 3, 4, 6, 5, 2]) [7] rfl (fun _ h => h.less (by repeat (first | exact List.Sublist.refl _ | refine List.Sublist.cons _ ?_))) (by kernel_rfl) (by kernel_rfl) rfl (fun _ d _ _ _ h => by cases d <;> exact h) rfl ?_ | refine ja1 (g' := 1) (D := [0, 1, 3, 4, 6, 5, 2, 7]) 8 rfl rfl (by kernel_rfl) rfl ?_ | refine jaq (g' := 0) (D := [0, 1, 3, 4, 6, 5, 2, 7, 8]) [9] rfl (fun _ h => h.less (by repeat (first | exact List.Sublist.refl _ | refine List.Sublist.cons _ ?_))) (by kernel_rfl) (by kernel_rfl) rfl (fun _ d _ _ _ h => by cases d <;> exact h) rfl ?_ | refine ja2 (g' := 5) (D := [0, 1, 3, 5]) 2 4 rfl rfl rfl (by kernel_rfl) rfl rfl ?_ ?_ | refine ja1 (g' := 4) (D := [0, 1, 3, 5, 2]) 4 rfl rfl (by kernel_rfl) rfl ?_ | refine jaq (g' := 2) (D := [0, 1, 3, 5, 2, 4]) [6, 7] rfl (fun _ h => h.less (by repeat (first | exact List.Sublist.refl _ | refine List.Sublist.cons _ ?_))) (by kernel_rfl) (by kernel_rfl) rfl (fun _ d _ _ _ h => by cases d <;> exact h) rfl ?_ | refine ja1 (g' := 1) (D := [0, 1, 3, 5, 2, 4, 6, 7]) 8 rfl rfl (by kernel_rfl) rfl ?_ | refine jaq (g' := 0) (D := [0, 1, 3, 5, 2, 4, 6, 7, 8]) [9] rfl (fun _ h => h.less (by repeat (first | exact List.Sublist.refl _ | refine List.Sublist.cons _ ?_))) (by kernel_rfl) (by kernel_rfl) rfl (fun _ d _ _ _ h => by cases d <;> exact h) rfl ?_ | refine jaq (g' := 4) (D := [0, 1, 3, 5, 4]) [6] rfl (fun _ h => h.less (by repeat (first | exact List.Sublist.refl _ | refine List.Sublist.cons _ ?_))) (by kernel_rfl) (by kernel_rfl) rfl (fun _ d _ _ _ h => by cases d <;> exact h) rfl ?_ | refine ja1 (g' := 3) (D := [0, 1, 3, 5, 4, 6]) 2 rfl rfl (by kernel_rfl) rfl ?_ | refine jaq (g' := 2) (D := [0, 1, 3, 5, 4, 6, 2]) [7] rfl (fun _ h => h.less (by repeat (first | exact List.Sublist.refl _ | refine List.Sublist.cons _ ?_))) (by kernel_rfl) (by kernel_rfl) rfl (fun _ d _ _ _ h => by cases d <;> exact h) rfl ?_ | refine ja1 (g' := 1) (D := [0, 1, 3, 5, 4, 6, 2, 7]) 8 rfl rfl (by kernel_rfl) rfl ?_ | refine jaq (g' := 0) (D := [0, 1, 3, 5, 4, 6, 2, 7, 8]) [9] rfl (fun _ h => h.less (by repeat (first | exact List.Sublist.refl _ | refine List.Sublist.cons _ ?_))) (by kernel_rfl) (by kernel_rfl) rfl (fun _ d _ _ _ h => by cases d <;> exact h) rfl ?_ | refine jadone rfl (by kernel_rfl) ?_))
  all_goals
    obtain ⟨gS, S⟩ := gs
    obtain ⟨hs1, hs2, hs3, hs4, hs5, hs6⟩ := hgs
    refine ret1 rfl rfl rfl (fun w' hw' => ⟨hdN H0 gL gM gS, ⟨gR, 0, 5, [], (List.replicate 5 zItm).flatten⟩, S, gd, rfl, ?_, rfl, rfl, rfl, rfl, ⟨hW, hsz, hbig, Cx.may_up hw (.inr hgL), Cx.may_up hw (.inr hgM)⟩, ⟨⟨Nat.zero_le _, rfl, Nat.zero_le _, (show 5 ≤ maxLen by simp only [maxLen]; omega), rfl⟩, Cx.may_up hw (.inr hgR)⟩, rfl, rfl, ⟨Cx.may_up hw hs1.s, Cx.may_up hw hs1.m1, Cx.may_up hw hs1.m2, Cx.may_up hw hs1.my, hs1.kl, hs1.kx⟩, ⟨(fun h => by rw [hs3] at h; cases h), (fun h => by rw [hs4] at h; cases h), (fun _ h => by rw [hs5] at h; cases h), hs6, hs1.kl⟩, hs2, hs3, hs4, hs5⟩)
    have h0 := (hw.up hw').perm (List.Perm.cons _ List.perm_append_comm)
    have e1 : lB (hdN H0 gL gM gS) (lsOf lx0 .nilFunc 0 (fV gd (divr false)) (.slice (some ⟨gR, 0, none⟩) 0 5)) = (gL, [.slice (some ⟨H0.gI, 0, none⟩) H0.s.length H0.cap, fnV k0, .nilFunc, .int .i64 0, .int .i64 0, .int .i64 0, .pointer (some ⟨gS, 0, none⟩), .bool H0.nf, .bool H0.nd, fV gd (divr false), .bool false, .int .i64 8, .int .i64 9, .bool false, .string ⟨#[]⟩, .int .i64 0, .int .i64 0, .int .i64 0, .map (some gM), .slice (some ⟨gR, 0, none⟩) 0 5, .nilIface], .c 92) := by
      rw [← hst]
      rfl
    show Cl X ([lB (hdN H0 gL gM gS) (lsOf lx0 .nilFunc 0 (fV gd (divr false)) (.slice (some ⟨gR, 0, none⟩) 0 5)), _, _, _, _] ++ (secM (hdN H0 gL gM gS) S ++ [])) w'
    rw [List.append_nil, e1]
    first | exact (h0.pickA (A := [_, _, _, _, _, _]) (B := [_, _, _, _, _]) [0, 5, 1, 2, 3] (by decide) rfl) | exact (h0.pickA (A := [_, _, _, _, _, _]) (B := [_, _, _, _, _]) [0, 5, 1, 3, 2] (by decide) rfl) | exact (h0.pickA (A := [_, _, _, _, _, _]) (B := [_, _, _, _, _]) [0, 5, 2, 1, 3] (by decide) rfl) | exact (h0.pickA (A := [_, _, _, _, _, _]) (B := [_, _, _, _, _]) [0, 5, 2, 3, 1] (by decide) rfl) | exact (h0.pickA (A := [_, _, _, _, _, _]) (B := [_, _, _, _, _]) [0, 5, 3, 1, 2] (by decide) rfl) | exact (h0.pickA (A := [_, _, _, _, _, _]) (B := [_, _, _, _, _]) [0, 5, 3, 2, 1] (by decide) rfl)
section
variable {X : Cx} {P : Program} {f : Fr} {m : Mem} {ty : TypeId} {pos : String} {af : Array Edge} {gd : Option (Nat × Bool)} {d : Option Tmp}
def ifB (P : Program) (t : TypeId) : Bool := match P.underlying t with
  | some (.interface _) => true
  | _ => false
def nilI : Value → Option Bool
  | .nilIface => some true
  | .iface _ _ => some false
  | _ => none
theorem run_eqI {t : TypeId} {a : Value} {b : Bool} (ht : ifB P t = true) (ha : nilI a = some b) (d : Nat) (w : World) : (Op.equalIn (d + 1) t a .nilIface).run P w = .ok b w := by
  unfold ifB at ht
  split at ht
  · rename_i hu
    unfold nilI at ha
    split at ha
    · cases ha; simp [Op.equalIn, run_underlying hu]
    · cases ha; simp [Op.equalIn, run_underlying hu]
    · cases ha
  · cases ht
theorem yin {x : Operand} {a : Value} {b : Bool} {t t' : TypeId} (hx : evF f x = some a) (ht : ifB P t = true) (ha : nilI a = some b) :
    Yl X P f m ⟨d, .binOp .neq t x (.const .nilIface) t', ty, pos, af, gd⟩ (.bool (!b)) := .of fun w1 w s => by
  have h1 := run_eqI (P := P) ht ha 9999 w
  have hy : w1.eval (.const .nilIface) = .nilIface := rfl
  cases a <;> (cases ha) <;> simp [execOp, s.agr.eval hx, hy, binOp, eqGuard, Op.equal, Op.maxDepth, h1]
end
theorem if79 : ifB Tryz.prog 69 = true := by kernel_rfl
theorem bo69 : bodyB Tryz.prog 55 = true := by kernel_rfl
theorem bo55 : bodyB Tryz.prog 47 = true := by kernel_rfl
theorem fb83_0 : fieldB Tryz.prog 73 0 = some 0 := by kernel_rfl
theorem one79 : oneB Tryz.prog 69 = true := by kernel_rfl
structure PsdOk (X : Cx) (H0 : Hd) (l : List Itm) (p : Hd × RI) : Prop where
  ib : iB p.1 = iB H0
  hs : p.1.s = H0.s
  it : p.2.x.items = l
  st : StOk X p.1 p.2.x p.2.q p.2.G
def psM (p : Hd × RI) : Mem := cM p.1 p.2.x (stV p.2.u) p.2.W p.2.gd p.2.q (secM p.1 p.2.S) p.2.G
set_option maxHeartbeats 1000000 in
theorem parse69_calls {X : Cx} {H0 : Hd} (st0 : Lex0.St) (h0 : st0 = if H0.nf then .main else .intro) (hst : H0.st0 = fnV (stF st0)) (hW : ∃ W, Bs W X ∧ Tab W) (hsz : H0.s.length ≤ H0.cap) (hbig : H0.s.length ≤ 4294967296) {E : Mem} : ∀ w, Cl X (iB H0 :: E) w →
    Calls Tryz.prog 55 #[.slice (some ⟨H0.gI, 0, none⟩) H0.s.length H0.cap, .agg #[.bool H0.nf, .bool H0.nd], fnV (stF st0)] w fun e w' => ∃ p : Hd × RI, e = .returned (.tuple #[pL p.1, .nilIface]) ∧ Cl X (psM p) w' ∧ PsdOk X H0 (parse envT H0.s (!H0.nf) (!H0.nd)) p := by
  intro w hw
  refine enterC 16 hw Tryz.func55 rfl rfl (vs := [.slice (some ⟨H0.gI, 0, none⟩) H0.s.length H0.cap, .agg #[.bool H0.nf, .bool H0.nd], fnV (stF st0)]) rfl ?_
  have hWs : ∃ W, Bs W (X.sub 16 w) ∧ Tab W := by
    obtain ⟨W, h1, h2⟩ := hW
    exact ⟨W, h1.sub hw 16, h2⟩
  have hnew : ∀ (R : Nat × List Value × Bk) (w' : World), Cl (X.sub 16 w) (R :: iB H0 :: E) w' → Calls Tryz.prog 85 #[.slice (some ⟨H0.gI, 0, none⟩) H0.s.length H0.cap, fnV (stF st0), .agg #[.bool H0.nf, .bool H0.nd]] w' fun e w'' => ∃ n : (Hd × RS) × (Sec × Nat), e = .returned (pL n.1.1) ∧ Cl (X.sub 16 w) (cM n.1.1 lx0 .nilFunc 0 n.2.2 n.1.2 (secM n.1.1 n.2.1) []) w'' ∧ (iB n.1.1 = iB H0 ∧ n.1.1.s = H0.s ∧ n.1.1.st0 = H0.st0 ∧ n.1.1.nd = H0.nd ∧ Ok (X.sub 16 w) n.1.1 ∧ QOk (X.sub 16 w) n.1.2 ∧ n.1.2.n = 0 ∧ n.1.2.ics = [] ∧ SecMay (X.sub 16 w) n.1.1 n.2.1 ∧ SecOk n.1.1.s lx0 n.2.1 ∧ n.2.1.dv = !n.1.1.nd ∧ n.2.1.all = false ∧ n.2.1.s1 = false ∧ n.2.1.s2 = false) := fun R w' hw' =>
    (new_calls (stF st0) hst hWs hsz (by omega) w' (hw'.perm (List.Perm.swap _ _ _))).mono fun e w'' ⟨H, q, S, gd, h1, h2, h3⟩ => ⟨((H, q), (S, gd)), h1, h2, h3⟩
  have hrun : ∀ (n : (Hd × RS) × (Sec × Nat)), (iB n.1.1 = iB H0 ∧ n.1.1.s = H0.s ∧ n.1.1.st0 = H0.st0 ∧ n.1.1.nd = H0.nd ∧ Ok (X.sub 16 w) n.1.1 ∧ QOk (X.sub 16 w) n.1.2 ∧ n.1.2.n = 0 ∧ n.1.2.ics = [] ∧ SecMay (X.sub 16 w) n.1.1 n.2.1 ∧ SecOk n.1.1.s lx0 n.2.1 ∧ n.2.1.dv = !n.1.1.nd ∧ n.2.1.all = false ∧ n.2.1.s1 = false ∧ n.2.1.s2 = false) → ∀ w', Cl (X.sub 16 w) (cM n.1.1 lx0 .nilFunc 0 n.2.2 n.1.2 (secM n.1.1 n.2.1) []) w' → Calls Tryz.prog 86 #[pL n.1.1] w' fun e w'' => ∃ i : RI, e = .returned (pL n.1.1) ∧ Cl (X.sub 16 w) (psM (n.1.1, i)) w'' ∧ (StOk (X.sub 16 w) n.1.1 i.x i.q i.G ∧ i.x.items = parse envT H0.s (!H0.nf) (!H0.nd)) := by
    rintro ⟨⟨H, q⟩, S, gd⟩ ⟨a1, a2, a3, a4, a5, a6, a7, a8, a9, a10, a11, a12, a13, a14⟩ w' hw'
    dsimp only at *
    have hp := parsesN' env_al H.s (!H0.nf) (!H0.nd)
    have he : (if (!H0.nf) = true then Lex0.St.intro else .main) = st0 := by rw [h0]; cases H0.nf <;> rfl
    rw [he] at hp
    have hg : Lex0.Good envT H.s st0 lx0 := by
      have := good0 envT H.s (!H0.nf)
      rw [he] at this
      exact this
    have hj : jo (some st0) = false := by rw [h0]; cases H0.nf <;> rfl
    have hsl : H.s.length ≤ 4294967296 := by rw [a2]; exact hbig
    have hdv : S.dv = !H0.nd := by rw [a11, a4]
    have hz : lx0.items.length = 0 := rfl
    refine (run_calls a5 hsl a9 (st0 := st0) (by rw [a3, hst]; rfl) hj .nilFunc gd (parse envT H.s (!H0.nf) (!H0.nd)) (4 * H.s.length + 3) hg ⟨a6, a7, by rw [a8]; exact ICS.nil, Nat.zero_le _, Nat.le_refl _⟩ ⟨a10, fun _ => ⟨a12, a13, a14⟩⟩ (by rw [hdv]; exact hp) (by omega) (by show 0 + _ ≤ _; omega) (by show 0 + _ ≤ _; omega) (Nat.zero_le _) w' hw').mono fun e w'' ⟨i, h1, h2, h3, h4, h5⟩ => ⟨i, h1, h2, h3, by rw [h4, a2]⟩
  conv => arg 2; arg 2; whnf
  repeat' (first | first | refine cseq ?_ | refine rtext ?_ | refine cret ?_ | refine jnil ?_ | (first | refine jmv rfl rfl rfl ?_ | (show Jo _ (.load _ _); refine jy (yloads (i := 0) rfl rfl agg83) rfl rfl ?_) | refine jas_ rfl rfl rfl ?_ | (show Jo _ (.call _); first | (show Jo (some 12) (.call _); refine jcall (ι := (Hd × RS) × (Sec × Nat)) (vs := [.slice (some ⟨H0.gI, 0, none⟩) H0.s.length H0.cap, fnV (stF st0), .agg #[.bool H0.nf, .bool H0.nd]]) _ bo105 rfl rfl rfl (hnew _) (fun n hn => ?_)) | (show Jo (some 14) (.call _); refine jcall (ι := RI) (vs := [pL n.1.1]) _ bo106 rfl rfl rfl (hrun n hn) (fun i hi => ?_))) | (show Jo (some 4) (.box _ _); refine jbox rfl rfl rfl (fun gC hgC => ?_))))
  exact ret2 rfl rfl rfl rfl (fun w' hw' => ⟨(n.1.1, i), rfl, hw.up hw', ⟨hn.1, hn.2.1, hi.2, StOk.up hw hi.1⟩⟩)
set_option maxHeartbeats 1000000 in
theorem parse55_calls {X : Cx} {H1 : Hd} (hW : ∃ W, Bs W X ∧ Tab W) (hsz : H1.s.length ≤ H1.cap) (hbig : H1.s.length ≤ 4294967296) {E : Mem} : ∀ w, Cl X (iB H1 :: E) w →
    Calls Tryz.prog 47 #[.slice (some ⟨H1.gI, 0, none⟩) H1.s.length H1.cap, .agg #[.bool H1.nf, .bool H1.nd]] w fun e w' => ∃ p : Hd × RI, e = .returned (.tuple #[p.2.q.val, .nilIface]) ∧ Cl X (psM p) w' ∧ PsdOk X H1 (parse envT H1.s (!H1.nf) (!H1.nd)) p := by
  intro w hw
  refine enterC 29 hw Tryz.func47 rfl rfl (vs := [.slice (some ⟨H1.gI, 0, none⟩) H1.s.length H1.cap, .agg #[.bool H1.nf, .bool H1.nd]]) rfl ?_
  have hWs : ∃ W, Bs W (X.sub 29 w) ∧ Tab W := by
    obtain ⟨W, h1, h2⟩ := hW
    exact ⟨W, h1.sub hw 29, h2⟩
  obtain ⟨st0, h0⟩ : ∃ st0 : Lex0.St, st0 = if H1.nf then .main else .intro := ⟨_, rfl⟩
  obtain ⟨H0, hH⟩ : ∃ H0 : Hd, H0 = { H1 with st0 := fnV (stF st0) } := ⟨_, rfl⟩
  have hp69 : ∀ (R : Nat × List Value × Bk) (w' : World), Cl (X.sub 29 w) (R :: iB H1 :: E) w' → Calls Tryz.prog 55 #[.slice (some ⟨H1.gI, 0, none⟩) H1.s.length H1.cap, .agg #[.bool H1.nf, .bool H1.nd], fnV (stF st0)] w' fun e w'' => ∃ p : Hd × RI, e = .returned (.tuple #[pL p.1, .nilIface]) ∧ Cl (X.sub 29 w) (psM p) w'' ∧ PsdOk (X.sub 29 w) H0 (parse envT H1.s (!H1.nf) (!H1.nd)) p := fun R w' hw' => by
    subst hH
    exact parse69_calls (H0 := { H1 with st0 := fnV (stF st0) }) st0 h0 rfl hWs hsz hbig w' (hw'.perm (List.Perm.swap _ _ _))
  have hfin : ∀ {p : Hd × RI}, PsdOk (X.sub 29 w) H0 (parse envT H1.s (!H1.nf) (!H1.nd)) p → PsdOk X H1 (parse envT H1.s (!H1.nf) (!H1.nd)) p := fun ⟨h1, h2, h3, h4⟩ => ⟨by rw [h1, hH]; rfl, by rw [h2, hH], h3, StOk.up hw h4⟩
  conv => arg 2; arg 2; whnf
  rcases (Bool.eq_false_or_eq_true H1.nf).symm with hv | hv
  · have hs0 : st0 = .intro := by rw [h0, hv]; rfl
    subst hs0
    repeat' (first | refine cfalse (congrArg (fun b => some (Value.bool b)) hv) ?_ | first | (show PJ _ (Code.wp _ _ _) _ _; first | refine cseq ?_ | refine rtext ?_ | refine cfalse rfl ?_ | refine cskip ?_ | refine cret ?_ | refine rquiet mixed (by kernel_rfl) ?_) | refine jnil ?_ | (first | refine jmv rfl rfl rfl ?_ | refine jy (ynil rfl) rfl rfl ?_ | (show Jo _ (.fieldAddr _ _ _); refine jy (yfield rfl (by first | exact fb83_0 | exact fb110_11 | exact fb110_12) rfl) rfl rfl ?_) | (show Jo _ (.load _ _); first | refine jy (yload (i := 0) rfl rfl rfl one4) rfl rfl ?_ | refine jy (yloads (i := 0) rfl rfl agg83) rfl rfl ?_) | refine jas_ rfl rfl rfl ?_ | (show Jo _ (.binOp _ _ _ _ _); ((show Jo (some 19) (.binOp .neq _ _ _ _); refine jy (yin rfl if79 rfl) rfl rfl ?_))) | (show Jo _ (.call _); ((show Jo (some 15) (.call _); refine jcall (ι := Hd × RI) (vs := [.slice (some ⟨H1.gI, 0, none⟩) H1.s.length H1.cap, .agg #[.bool H1.nf, .bool H1.nd], fnV 53]) _ bo69 rfl rfl rfl (hp69 _) (fun p hp => ?_)))) | (show Jo _ (.extract _ _); refine jy (yextractL rfl rfl) rfl rfl ?_) | (show Jo (some 3) (.box _ _); refine jbox rfl rfl rfl (fun gC hgC => ?_))))
    exact ret2 rfl rfl rfl rfl (fun w' hw' => ⟨p, rfl, hw.up hw', hfin hp⟩)
  · have hs0 : st0 = .main := by rw [h0, hv]; rfl
    subst hs0
    repeat' (first | refine ctrue (congrArg (fun b => some (Value.bool b)) hv) ?_ | first | (show PJ _ (Code.wp _ _ _) _ _; first | refine cseq ?_ | refine rtext ?_ | refine cfalse rfl ?_ | refine cskip ?_ | refine cret ?_ | refine rquiet mixed (by kernel_rfl) ?_) | refine jnil ?_ | (first | refine jmv rfl rfl rfl ?_ | refine jy (ynil rfl) rfl rfl ?_ | (show Jo _ (.fieldAddr _ _ _); refine jy (yfield rfl (by first | exact fb83_0 | exact fb110_11 | exact fb110_12) rfl) rfl rfl ?_) | (show Jo _ (.load _ _); first | refine jy (yload (i := 0) rfl rfl rfl one4) rfl rfl ?_ | refine jy (yloads (i := 0) rfl rfl agg83) rfl rfl ?_) | refine jas_ rfl rfl rfl ?_ | (show Jo _ (.binOp _ _ _ _ _); ((show Jo (some 19) (.binOp .neq _ _ _ _); refine jy (yin rfl if79 rfl) rfl rfl ?_))) | (show Jo _ (.call _); ((show Jo (some 15) (.call _); refine jcall (ι := Hd × RI) (vs := [.slice (some ⟨H1.gI, 0, none⟩) H1.s.length H1.cap, .agg #[.bool H1.nf, .bool H1.nd], fnV 54]) _ bo69 rfl rfl rfl (hp69 _) (fun p hp => ?_)))) | (show Jo _ (.extract _ _); refine jy (yextractL rfl rfl) rfl rfl ?_) | (show Jo (some 3) (.box _ _); refine jbox rfl rfl rfl (fun gC hgC => ?_))))
    exact ret2 rfl rfl rfl rfl (fun w' hw' => ⟨p, rfl, hw.up hw', hfin hp⟩)
end Go.Proofs.YtkehggbmpdacpabGreatDoor.Pg
namespace Go.Proofs.YtkehggbmpdacpabGreatDoor.Lex0
open Go.Proofs.YtkehggbmpdacpabGreatDoor.Dec0 Go.Proofs.YtkehggbmpdacpabGreatDoor.Txt0
def isSpT (t : T) : Bool := t.all fun c => isSp c.toNat
def bitsT (ty : Nat) (nw : Bool) : Nat :=
  (if ty = 18 ∨ ty = 17 then 1 else 0) + (if ty = 17 then 2 else 0) + (if nw then 4 else 0) + (if ty = 13 then 8 else 0) + (if ty = 14 then 16 else 0) + (if ty = 8 ∨ ty = 10 then 32 else 0) + (if ty = 9 ∨ ty = 11 then 64 else 0) + (if ty = 12 then 128 else 0) + (if ty = 15 then 256 else 0) + (if ty = 16 then 512 else 0) + (if ty = 10 ∨ ty = 11 then 1024 else 0) + (if 3 ≤ ty ∧ ty ≤ 6 then 2048 else 0) + (if ty = 0 ∨ ty = 1 then 4096 else 0) + (if ty = 1 then 8192 else 0) + (if ty = 0 then 16384 else 0)
structure Ti where
  ty : Nat
  pos : Nat
  text : T
  failed : Bool
  is : Nat
deriving DecidableEq
def posI (it : Itm) : Nat := match it.segs with
  | [] => it.low
  | p :: _ => p.1
def valI (s : T) (it : Itm) : T := if it.segs = [] then cut s it.low it.high else it.segs.flatMap fun p => cut s p.1 p.2
def toldI (E : Env) (s : T) (it : Itm) : Ti := ⟨it.ty, posI it, valI s it, it.err, bitsT it.ty (!(E.tr (valI s it)).isEmpty)⟩
def tiOf (ty pos : Nat) (t : T) : Ti := ⟨ty, pos, t, false, bitsT ty (!isSpT t)⟩
def asc (t : T) : Prop := ∀ c ∈ t, c.toNat < 128
structure TrA (E : Env) : Prop where
  asc : ∀ t, asc t → (E.tr t).isEmpty = isSpT t
theorem asc_app {a b : T} (h : asc a) (k : asc b) : asc (a ++ b) := fun c hc => by
  rcases List.mem_append.1 hc with h' | h'
  · exact h c h'
  · exact k c h'
theorem toldI_of {E : Env} (hT : TrA E) {s : T} {it : Itm} {t : T} {p : Nat} (h1 : valI s it = t) (h2 : asc t) (h3 : it.err = false) (h4 : posI it = p) : toldI E s it = tiOf it.ty p t := by
  unfold toldI tiOf
  rw [h1, h3, h4, hT.asc t h2]
theorem told_mk {E : Env} (hT : TrA E) {s : T} {ty a b : Nat} {t : T} (h : cut s a b = t) (ha : asc t) : toldI E s (mk ty a b) = tiOf ty a t := toldI_of hT (h : _ = t) ha rfl rfl
theorem told_str {E : Env} (hT : TrA E) {s : T} {ty a b : Nat} {t : T} (h : cut s a b = t) (ha : asc t) : toldI E s { mk ty a b with str := true } = tiOf ty a t := toldI_of hT (h : _ = t) ha rfl rfl
theorem segs_text {s : T} : ∀ (l r : T) (k i : Nat), k ≤ i → s.drop i = l ++ r → (segsL l k i).flatMap (fun p => cut s p.1 p.2) = cut s k i ++ l.filter (· ≠ 92) := by
  intro l
  induction l with
  | nil =>
    intro r k i hk hd
    unfold segsL
    by_cases h : k < i
    · rw [if_pos h]; simp
    · rw [if_neg h, show k = i by omega]; simp [cut]
  | cons c l ih =>
    intro r k i hk hd
    have hd1 : s.drop (i + 1) = l ++ r := drop_c hd
    have hc0 : cut s (i + 1) (i + 1) = [] := by unfold cut; simp
    unfold segsL
    by_cases hc : c = 92
    · rw [if_pos hc]
      have hf : (c :: l).filter (· ≠ 92) = l.filter (· ≠ 92) := by rw [List.filter_cons_of_neg (by simp [hc])]
      rw [hf]
      by_cases h : k < i
      · rw [if_pos h, List.flatMap_cons, ih r _ _ (Nat.le_refl _) hd1, hc0]; rfl
      · rw [if_neg h, ih r _ _ (Nat.le_refl _) hd1, hc0, show k = i by omega]
        simp [cut]
    · rw [if_neg hc, ih r _ _ (by omega) hd1]
      have hf : (c :: l).filter (· ≠ 92) = c :: l.filter (· ≠ 92) := by rw [List.filter_cons_of_pos (by simp [hc])]
      rw [hf]
      have : cut s k (i + 1) = cut s k i ++ [c] := by
        unfold cut
        have e1 : (s.drop k).drop (i - k) = c :: (l ++ r) := by rw [List.drop_drop, show k + (i - k) = i by omega]; exact hd
        rw [show i + 1 - k = (i - k) + 1 by omega]
        rw [List.take_add, e1]
        rfl
      rw [this, List.append_assoc]
      rfl
theorem esc_filter : ∀ {v : T}, (∀ c ∈ v, c ≠ 92) → (escT v).filter (· ≠ 92) = v := by
  intro v
  induction v with
  | nil => intro _; rfl
  | cons c v ih =>
    intro h
    have h1 := h c (List.mem_cons_self ..)
    show ((if c = 34 then [92, 34] else [c]) ++ escT v).filter _ = _
    rw [List.filter_append, ih (fun c hc => h c (List.mem_cons_of_mem _ hc))]
    by_cases hc : c = 34
    · rw [if_pos hc, hc]; rfl
    · rw [if_neg hc, List.filter_cons_of_pos (by simpa using h1)]; rfl
theorem segs_first : ∀ (l : T) (k i : Nat), k < i → ∃ b r, segsL l k i = (k, b) :: r := by
  intro l
  induction l with
  | nil => intro k i h; unfold segsL; rw [if_pos h]; exact ⟨_, _, rfl⟩
  | cons c l ih =>
    intro k i h
    unfold segsL
    by_cases hc : c = 92
    · rw [if_pos hc, if_pos h]; exact ⟨_, _, rfl⟩
    · rw [if_neg hc]; exact ih _ _ (by omega)
theorem told_q {E : Env} (hT : TrA E) {s : T} {ty p : Nat} {v r : T} (hd : s.drop p = escT v ++ r) (ha : asc v) (hv : ∀ c ∈ v, c ≠ 92) (h0 : v.head? ≠ some 34) : toldI E s (qItm ty p v) = tiOf ty p v := by
  unfold qItm
  by_cases hq : v.contains 34 = true
  · rw [if_pos hq]
    cases v with
    | nil => simp at hq
    | cons c v =>
      have hc34 : c ≠ 34 := fun e => h0 (by rw [e]; rfl)
      have hc92 := hv c (List.mem_cons_self ..)
      have he : escT (c :: v) = c :: escT v := by show (if c = 34 then [92, 34] else [c]) ++ escT v = _; rw [if_neg hc34]; rfl
      have hs : segsL (escT (c :: v)) p p = segsL (escT v) p (p + 1) := by rw [he]; show segsL (c :: escT v) p p = _; rw [segsL, if_neg hc92]
      obtain ⟨b, r', hf⟩ := segs_first (escT v) p (p + 1) (by omega)
      refine toldI_of hT (it := ⟨ty, 0, 0, segsL (escT (c :: v)) p p, false, false⟩) ?_ ha rfl ?_
      · unfold valI
        dsimp only
        rw [if_neg (by rw [hs, hf]; simp), segs_text _ _ _ _ (Nat.le_refl _) hd, esc_filter hv]
        simp [cut]
      · unfold posI
        dsimp only
        rw [hs, hf]
  · rw [if_neg hq]
    have hp : escT v = v := escT_plain fun c hc e => hq (by rw [e] at hc; simpa using hc)
    rw [hp] at hd ⊢
    exact told_str hT (cut_at hd) ha
structure Book where
  s : T
  l : List Ti
def Book.as_ (b : Book) (ty : Nat) (text told : T) : Book := ⟨b.s ++ text, b.l ++ [tiOf ty b.s.length told]⟩
def Book.put (b : Book) (ty : Nat) (text : T) : Book := b.as_ ty text text
def Book.pass (b : Book) (text : T) : Book := ⟨b.s ++ text, b.l⟩
structure Ctl where
  md : Bool
  inl : Bool
  name : ByteArray
  closing : Nat
  step : Nat
  par : Nat
  op : List (ByteArray × Bool)
  org : Bool
  chk : Bool
def ctl (x : Lx) : Ctl := ⟨x.md, x.inl, x.name, x.closing, x.step, x.par, x.op, x.org, x.chk⟩
structure Sim (E : Env) (s : T) (b : Book) (r : T) (c : Ctl) (x : Lx) : Prop where
  e : s = b.s ++ r
  p : x.pos = b.s.length
  st : x.start = x.pos
  l : x.items.map (toldI E s) = b.l
  c : ctl x = c
theorem Sim.drop {E : Env} {s : T} {b : Book} {r : T} {c : Ctl} {x : Lx} (h : Sim E s b r c x) : s.drop x.pos = r := by rw [h.e, h.p, List.drop_left]
def Go (E : Env) (s : T) (dv : Bool) (st : St) (b : Book) (r : T) (c : Ctl) (st' : St) (b' : Book) (r' : T) (c' : Ctl) : Prop := ∀ x, Sim E s b r c x → ∃ x', Steps E s dv st x st' x' ∧ Sim E s b' r' c' x'
theorem Go.refl {E : Env} {s : T} {dv : Bool} {st : St} {b : Book} {r : T} {c : Ctl} : Go E s dv st b r c st b r c := fun x h => ⟨x, .refl, h⟩
theorem Go.trans {E : Env} {s : T} {dv : Bool} {st1 st2 st3 : St} {b1 b2 b3 : Book} {r1 r2 r3 : T} {c1 c2 c3 : Ctl} (h : Go E s dv st1 b1 r1 c1 st2 b2 r2 c2) (k : Go E s dv st2 b2 r2 c2 st3 b3 r3 c3) : Go E s dv st1 b1 r1 c1 st3 b3 r3 c3 := fun x hx => by
  obtain ⟨y, h1, h2⟩ := h x hx
  obtain ⟨z, h3, h4⟩ := k y h2
  exact ⟨z, h1.trans h3, h4⟩
def Tells (E : Env) (s : T) (front dv : Bool) (l : List Ti) : Prop := ∃ k, Parses E s front dv k ∧ k.map (toldI E s) = l
section
variable {E : Env} {s : T} {dv : Bool} {b : Book} {c : Ctl}
theorem Sim.put {r' u t : T} {ty : Nat} {c' : Ctl} {x y : Lx} (hx : Sim E s b (u ++ r') c x) (hp : y.pos = x.pos + u.length) (hst : y.start = y.pos) (it : Itm) (hi : y.items = x.items ++ [it]) (ht : toldI E s it = tiOf ty x.pos t) (hc : ctl y = c') : Sim E s (b.as_ ty u t) r' c' y := by
  obtain ⟨h1, h2, h3, h4, h5⟩ := hx
  refine ⟨?_, ?_, hst, ?_, hc⟩
  · show s = (b.s ++ u) ++ r'; rw [h1, List.append_assoc]
  · show _ = (b.s ++ u).length; rw [hp, h2, List.length_append]
  · rw [hi, List.map_append, h4, List.map_cons, List.map_nil, ht, h2]; rfl
theorem Sim.pass {r' u : T} {c' : Ctl} {x y : Lx} (hx : Sim E s b (u ++ r') c x) (hp : y.pos = x.pos + u.length) (hst : y.start = y.pos) (hi : y.items = x.items) (hc : ctl y = c') : Sim E s (b.pass u) r' c' y := by
  obtain ⟨h1, h2, h3, h4, h5⟩ := hx
  refine ⟨?_, ?_, hst, ?_, hc⟩
  · show s = (b.s ++ u) ++ r'; rw [h1, List.append_assoc]
  · show _ = (b.s ++ u).length; rw [hp, h2, List.length_append]
  · rw [hi]; exact h4
theorem g_sp (u : T) {r : T} (hu : ∀ c ∈ u, isSp c.toNat = true) : Go E s dv .inside b (u ++ r) c .inside (b.pass u) r c := fun x hx =>
  ⟨_, in_sp u hx.st hx.drop hu, hx.pass rfl rfl rfl hx.c⟩
theorem asc_rd (md : Bool) : asc (rd md) := by cases md <;> (intro c hc; revert c; decide)
theorem asc_lf (md : Bool) : asc (if md then lmd else lno) := by cases md <;> (intro c hc; revert c; decide)
theorem g_right (hT : TrA E) {r : T} {md : Bool} (hm : c.md = md) : Go E s dv .inside b (rd md ++ r) c .main (b.put (if md then 11 else 9) (rd md)) r { c with closing := 0 } := fun x hx => by
  have hmd : x.md = md := by rw [← hm, ← hx.c]; rfl
  have hd := hx.drop
  rw [← hmd] at hd hx ⊢
  refine ⟨_, .go (in_right hd) (.one right_main), hx.put (by rw [rd3]) rfl _ rfl ?_ (by rw [← hx.c]; rfl)⟩
  rw [← hx.st]
  refine told_mk hT ?_ (asc_rd _)
  rw [hx.st]
  have := cut_at hd
  rw [rd3] at this
  exact this
theorem isN_lt {c : UInt8} (h : isN c = true) : c.toNat < 128 := by
  unfold isN at h
  simp only [Bool.or_eq_true, beq_iff_eq] at h
  rcases h with (h | h) | h
  · exact isW_lt h
  · omega
  · omega
structure NameT (w : T) : Prop where
  ne : w ≠ []
  h0 : ∀ c, w.head? = some c → isW c = true
  all : ∀ c ∈ w, isN c = true
theorem NameT.asc {w : T} (h : NameT w) : asc w := fun c hc => isN_lt (h.all c hc)
def ctlN (c : Ctl) (inl : Bool) (w : T) : Ctl := { c with inl := inl, closing := 0, name := ba w, step := c.step + 1, op := oset (ba w) true (if 0 < c.closing then oset (ba w) false c.op else c.op) }
theorem g_name (hE : EA E) (hT : TrA E) {w r : T} (hw : NameT w) (hi : c.inl = false) (hst : c.step = 0) (ho : c.closing = 0 ∨ oget (ba w) c.op = true) :
    Go E s dv .inside b (w ++ 32 :: r) c (if 0 < c.closing then .endsc else .inside) (b.put 13 w) (32 :: r) (ctlN c false w) := fun x hx => by
  have hc := hx.c
  subst hc
  refine ⟨_, in_name hE hx.st hi hst hx.drop hw.ne hw.h0 hw.all ho, hx.put rfl rfl _ rfl ?_ rfl⟩
  rw [← hx.st]
  exact told_mk hT (by rw [hx.st]; exact cut_at hx.drop) hw.asc
structure ValT (v : T) : Prop where
  asc : asc v
  q : ∀ c ∈ v, c ≠ 92 ∧ c ≠ 10
  h0 : v.head? ≠ some 34
theorem Sim.qput {u v r' : T} {ty : Nat} {c' : Ctl} {x y : Lx} {a : T} (hx : Sim E s b (a ++ (escT v ++ (u ++ r'))) c x) (hp : y.pos = x.pos + a.length + (escT v).length + u.length) (hst : y.start = y.pos) (it : Itm) (hi : y.items = x.items ++ [it]) (ht : toldI E s it = tiOf ty (x.pos + a.length) v) (hc : ctl y = c') : Sim E s (((b.pass a).as_ ty (escT v) v).pass u) r' c' y := by
  obtain ⟨h1, h2, h3, h4, h5⟩ := hx
  refine ⟨?_, ?_, hst, ?_, hc⟩
  · show s = (((b.s ++ a) ++ escT v) ++ u) ++ r'; rw [h1]; simp only [List.append_assoc]
  · show _ = (((b.s ++ a) ++ escT v) ++ u).length; simp only [List.length_append]; omega
  · rw [hi, List.map_append, h4, List.map_cons, List.map_nil, ht, h2]
    show _ = b.l ++ [tiOf ty (b.s ++ a).length v]
    rw [List.length_append]
theorem g_quoted (hT : TrA E) {v r : T} (hv : ValT v) (hst : 0 < c.step) (hpar : c.par ≠ 2) : Go E s dv .inside b (34 :: (escT v ++ 34 :: r)) c .inside (((b.pass [34]).as_ 15 (escT v) v).pass [34]) r { c with par := 1 } := fun x hx => by
  have hc := hx.c
  subst hc
  refine ⟨_, .one (in_quoted hx.st hst hpar hx.drop hv.q), Sim.qput (a := [34]) (u := [34]) hx rfl rfl _ rfl ?_ rfl⟩
  exact told_q hT (drop_c hx.drop) hv.asc (fun c hc => (hv.q c hc).1) hv.h0
theorem g_eqQ (hT : TrA E) {v r : T} (hv : ValT v) : Go E s dv .inside b (61 :: 34 :: (escT v ++ 34 :: r)) c .inside (((b.pass [61, 34]).as_ 16 (escT v) v).pass [34]) r c := fun x hx => by
  have hc := hx.c
  subst hc
  refine ⟨_, .one (in_eqQ hx.drop hv.q), Sim.qput (a := [61, 34]) (u := [34]) hx rfl rfl _ rfl ?_ rfl⟩
  exact told_q hT (drop_more (u := [61, 34]) hx.drop) hv.asc (fun c hc => (hv.q c hc).1) hv.h0
theorem Sim.rput {u v r' : T} {ty : Nat} {c' : Ctl} {x y : Lx} {a : T} (hx : Sim E s b (a ++ (v ++ (u ++ r'))) c x) (hp : y.pos = x.pos + a.length + v.length + u.length) (hst : y.start = y.pos) (it : Itm) (hi : y.items = x.items ++ [it]) (ht : toldI E s it = tiOf ty (x.pos + a.length) v) (hc : ctl y = c') : Sim E s (((b.pass a).put ty v).pass u) r' c' y := by
  obtain ⟨h1, h2, h3, h4, h5⟩ := hx
  refine ⟨?_, ?_, hst, ?_, hc⟩
  · show s = (((b.s ++ a) ++ v) ++ u) ++ r'; rw [h1]; simp only [List.append_assoc]
  · show _ = (((b.s ++ a) ++ v) ++ u).length; simp only [List.length_append]; omega
  · rw [hi, List.map_append, h4, List.map_cons, List.map_nil, ht, h2]
    show _ = b.l ++ [tiOf ty (b.s ++ a).length v]
    rw [List.length_append]
theorem g_eqR (hT : TrA E) {v r : T} (ha : asc v) (hv : ∀ c ∈ v, c ≠ 96) : Go E s dv .inside b (61 :: 96 :: (v ++ 96 :: r)) c .inside (((b.pass [61, 96]).put 16 v).pass [96]) r c := fun x hx => by
  have hc := hx.c
  subst hc
  refine ⟨_, .one (in_eqR hx.drop hv), Sim.rput (a := [61, 96]) (u := [96]) hx rfl rfl _ rfl ?_ rfl⟩
  exact told_str hT (cut_at (drop_more (u := [61, 96]) hx.drop)) ha
theorem isP_lt {c : UInt8} (h : isP c = true) : c.toNat < 128 := by
  unfold isP at h
  simp only [Bool.or_eq_true, beq_iff_eq] at h
  rcases h with (h | h) | h
  · exact isW_lt h
  · omega
  · omega
structure BareT (w : T) : Prop where
  ne : w ≠ []
  h0 : ∀ c, w.head? = some c → isW c = true
  all : ∀ c ∈ w, isP c = true
theorem BareT.asc {w : T} (h : BareT w) : asc w := fun c hc => isP_lt (h.all c hc)
theorem g_bare (hE : EA E) (hT : TrA E) {w r : T} {d : UInt8} (hw : BareT w) (hst : 0 < c.step) (hl : d.toNat < 128) (hd : isP d = false) (hpar : if d = 61 then c.par ≠ 1 else c.par ≠ 2) :
    Go E s dv .inside b (w ++ d :: r) c .inside (b.put 15 w) (d :: r) { c with par := if c.par = 0 then (if d = 61 then 2 else 1) else c.par } := fun x hx => by
  have hc := hx.c
  subst hc
  obtain ⟨a, w', rfl⟩ : ∃ a w', w = a :: w' := by
    cases w with
    | nil => exact absurd rfl hw.ne
    | cons a w' => exact ⟨a, w', rfl⟩
  refine ⟨_, .one (in_bare hE hx.st hst hx.drop (hw.h0 a rfl) (fun c hc => hw.all c (List.mem_cons_of_mem _ hc)) hl hd hpar), Sim.put hx rfl rfl _ rfl ?_ rfl⟩
  exact told_mk hT (cut_at hx.drop) hw.asc
def texts (b : Book) (u : T) : Book := ⟨b.s ++ u, b.l ++ (let t := u.reverse; let k := (t.takeWhile isBl).length; if u = [] then [] else if t ≠ [] ∧ k = t.length then [tiOf 17 b.s.length u] else if 0 < k ∧ (t.drop k).head? = some 10 then [tiOf 18 b.s.length (u.take (u.length - k)), tiOf 17 (b.s.length + (u.length - k)) (u.drop (u.length - k))] else [tiOf 18 b.s.length u])⟩
theorem tw_len_le (u : T) : ((u.reverse).takeWhile isBl).length ≤ u.length := by
  have := (List.takeWhile_sublist (l := u.reverse) isBl).length_le
  rwa [List.length_reverse] at this
theorem told_txts (hT : TrA E) {p : Nat} {u r : T} (hd : s.drop p = u ++ r) (ha : asc u) (hu : u ≠ []) : (txts s p (p + u.length)).map (toldI E s) = (let t := u.reverse; let k := (t.takeWhile isBl).length; if t ≠ [] ∧ k = t.length then [tiOf 17 p u] else if 0 < k ∧ (t.drop k).head? = some 10 then [tiOf 18 p (u.take (u.length - k)), tiOf 17 (p + (u.length - k)) (u.drop (u.length - k))] else [tiOf 18 p u]) := by
  have hc := cut_at hd
  have hk := tw_len_le u
  rw [txts_cut hc]
  dsimp only
  generalize ((u.reverse).takeWhile isBl).length = k at hk ⊢
  have h1 : cut s p (p + (u.length - k)) = u.take (u.length - k) := by
    unfold cut
    rw [hd, show p + (u.length - k) - p = u.length - k by omega, List.take_append_of_le_length (by omega)]
  have h2 : cut s (p + (u.length - k)) (p + u.length) = u.drop (u.length - k) := by
    unfold cut
    rw [← List.drop_drop, hd, List.drop_append_of_le_length (by omega), show p + u.length - (p + (u.length - k)) = (u.drop (u.length - k)).length by rw [List.length_drop]; omega, List.take_left]
  have a1 : asc (u.take (u.length - k)) := fun c hc => ha c (List.mem_of_mem_take hc)
  have a2 : asc (u.drop (u.length - k)) := fun c hc => ha c (List.mem_of_mem_drop hc)
  split
  · simp only [List.map_cons, List.map_nil, told_mk hT hc ha]
  · split
    · rw [show p + u.length - k = p + (u.length - k) by omega]
      simp only [List.map_cons, List.map_nil, told_mk hT h1 a1, told_mk hT h2 a2]
    · simp only [List.map_cons, List.map_nil, told_mk hT hc ha]
theorem told_opn (hT : TrA E) {u r : T} {x : Lx} (hx : Sim E s b (u ++ r) c x) (ha : asc u) : (x.items ++ opn s x.start (x.pos + u.length)).map (toldI E s) = (texts b u).l := by
  rw [List.map_append, hx.l, hx.st]
  unfold texts opn
  dsimp only
  by_cases hu : u = []
  · subst hu
    rw [if_neg (by simp), if_pos rfl]; rfl
  · have := List.length_pos_iff.2 hu
    rw [if_pos (by omega), if_neg hu, told_txts hT hx.drop ha hu, hx.p]
theorem g_left (hT : TrA E) (u : T) {r : T} (md : Bool) (ha : asc u) (hf : ∀ x, Sim E s b (u ++ ((if md then lmd else lno) ++ r)) c x → found s dv x = some u.length) (hi : c.inl = true → inlOk E r c.name = true) (hc : [47, 42].isPrefixOf r = false) :
    Go E s dv .main b (u ++ ((if md then lmd else lno) ++ r)) c .inside ((texts b u).put (if md then 10 else 8) (if md then lmd else lno)) r { c with md := md, step := 0, par := 0 } := fun x hx => by
  have hcx := hx.c
  subst hcx
  have hd2 : s.drop (x.pos + u.length) = (if md then lmd else lno) ++ r := drop_more hx.drop
  have hm : Sim E s (texts b u) ((if md then lmd else lno) ++ r) (ctl x) { x with pos := x.pos + u.length, start := x.pos + u.length, items := x.items ++ opn s x.start (x.pos + u.length) } :=
    ⟨by show s = (b.s ++ u) ++ _; rw [List.append_assoc]; exact hx.e, by show _ = (b.s ++ u).length; rw [List.length_append, ← hx.p], rfl, told_opn hT hx ha, rfl⟩
  refine ⟨_, go_in (hf x hx) (Nat.le_of_eq hx.st) hd2 hi hc, Sim.put hm (by rw [lf3]) rfl _ rfl ?_ rfl⟩
  refine told_mk hT ?_ (asc_lf md)
  have := cut_at hd2
  rw [lf3] at this
  exact this
theorem found_of_sim {u r : T} {x : Lx} (hx : Sim E s b (u ++ 123 :: 123 :: r) c x) (h1 : ∀ c ∈ u, c ≠ 123) (h2 : dv = true → c.chk = false → ∀ d ∈ u, d ≠ if c.org then 35 else 60) : found s dv x = some u.length := by
  have hc := hx.c
  subst hc
  refine found_left hx.drop h1 (fun ho => ?_)
  unfold dvOn at ho
  simp only [Bool.and_eq_true, Bool.not_eq_true'] at ho
  exact h2 ho.1 ho.2
theorem g_stop (hT : TrA E) (u : T) {x : Lx} (hx : Sim E s b u c x) (ha : asc u) (hf : u = [] ∨ found s dv x = none) : ∃ k, Runs E s dv .main x k ∧ k.map (toldI E s) = ((texts b u).put 1 []).l := by
  have hs : s.length = x.pos + u.length := by rw [hx.e, List.length_append, hx.p]
  refine ⟨_, go_end (Nat.le_of_eq hx.st) (by omega) ?_, ?_⟩
  · rcases hf with h | h
    · subst h; left; rw [hs]; simp
    · exact .inr h
  · have h1 := told_opn hT (u := u) (r := []) (x := x) (by rw [List.append_nil]; exact hx) ha
    rw [List.map_append, hs, h1]
    show _ = (texts b u).l ++ [tiOf 1 (b.s ++ u).length []]
    congr 1
    rw [List.map_cons, List.map_nil, told_mk hT (t := []) (by unfold cut; simp) (by intro c hc; cases hc), List.length_append, hx.p]
theorem texts_nil (b : Book) : texts b [] = b := by
  unfold texts
  dsimp only
  rw [if_pos rfl, List.append_nil, List.append_nil]
end
def c0 : Ctl := ⟨false, false, ⟨#[]⟩, 0, 0, 0, [], false, false⟩
theorem sim0 (E : Env) (s : T) : Sim E s ⟨[], []⟩ s c0 lx0 := ⟨rfl, rfl, rfl, rfl, rfl⟩
theorem tells_of {E : Env} {s : T} {dv : Bool} (hT : TrA E) {b : Book} {c : Ctl} (h : Go E s dv .main ⟨[], []⟩ s c0 .main b [] c) : Tells E s false dv (b.put 1 []).l := by
  obtain ⟨x, h1, h2⟩ := h lx0 (sim0 E s)
  obtain ⟨k, h3, h4⟩ := g_stop (dv := dv) hT [] h2 (by intro c hc; cases hc) (.inl rfl)
  rw [texts_nil] at h4
  exact ⟨k, h1.runs h3, h4⟩
end Go.Proofs.YtkehggbmpdacpabGreatDoor.Lex0
namespace Go.Proofs.YtkehggbmpdacpabGreatDoor.Pg
open Go.Rx hiding bt
open Go.RowKit Go.Proofs.YtkehggbmpdacpabGreatDoor.Dec0 Go.Proofs.YtkehggbmpdacpabGreatDoor.Lex0
theorem one85' : oneB Tryz.prog 75 = true := by kernel_rfl
theorem fb88_0' : fieldB Tryz.prog 78 0 = some 0 := by kernel_rfl
theorem fb88_2' : fieldB Tryz.prog 78 2 = some 2 := by kernel_rfl
theorem fb88_4' : fieldB Tryz.prog 78 4 = some 4 := by kernel_rfl
def IC (ty : Nat) (cs : List Value) : Prop := ∃ er lo hi sg fb st, cs = [.int .i64 (ty : Nat), er, lo, hi, sg, fb, st] ∧ ∀ v ∈ [er, lo, hi, sg, fb, st], v.oneCell' = true
theorem bq73 : bodyB Tryz.prog 59 = true := by kernel_rfl
theorem q73_calls {w : World} {ty : Nat} {cs : List Value} (hc : IC ty cs) : Calls Tryz.prog 59 #[.agg cs.toArray] w fun e w' => e = .returned (.bool (decide (ty = 17))) ∧ Below w.heap.size w w' := by
  obtain ⟨er, lo, hi, sg, fb, st, rfl, h1⟩ := hc
  refine enter (fun _ => False) 6 [] Tryz.func59 rfl rfl rfl (vs := [.agg #[.int .i64 (ty : Nat), er, lo, hi, sg, fb, st]]) (Has.nil _) ?_
  conv => arg 2; arg 2; whnf
  by_cases h : ty = 17
  · repeat' (first | refine cseq ?_ | refine rtext ?_ | refine cret ?_ | refine jnil ?_ | (first | (show Jo _ (.fieldAddr _ _ _); refine jy (yfield rfl fb88_0' rfl) rfl rfl ?_) | (show Jo _ (.load _ _); refine jy (yload (i := 0) rfl rfl rfl one85') rfl rfl ?_) | refine jas_ rfl rfl rfl ?_ | (show Jo _ (.binOp _ _ _ _ _); refine jy (yeql rfl rfl (by (exact decide_eq_true (by omega)))) rfl rfl ?_) | (show Jo _ (.box _ _); refine jbox rfl rfl rfl (fun gb hT => ?_))))
    exact ret1 rfl rfl rfl (fun w' hw' => ⟨by rw [decide_eq_true h], hw'.2.below (fun k _ h => h) (Nat.le_refl _)⟩)
  · repeat' (first | refine cseq ?_ | refine rtext ?_ | refine cret ?_ | refine jnil ?_ | (first | (show Jo _ (.fieldAddr _ _ _); refine jy (yfield rfl fb88_0' rfl) rfl rfl ?_) | (show Jo _ (.load _ _); refine jy (yload (i := 0) rfl rfl rfl one85') rfl rfl ?_) | refine jas_ rfl rfl rfl ?_ | (show Jo _ (.binOp _ _ _ _ _); refine jy (yeql rfl rfl (by (exact decide_eq_false (by omega)))) rfl rfl ?_) | (show Jo _ (.box _ _); refine jbox rfl rfl rfl (fun gb hT => ?_))))
    exact ret1 rfl rfl rfl (fun w' hw' => ⟨by rw [decide_eq_false h], hw'.2.below (fun k _ h => h) (Nat.le_refl _)⟩)
theorem bq75 : bodyB Tryz.prog 61 = true := by kernel_rfl
theorem q75_calls {w : World} {ty : Nat} {cs : List Value} (hc : IC ty cs) : Calls Tryz.prog 61 #[.agg cs.toArray] w fun e w' => e = .returned (.bool (decide (ty = 13))) ∧ Below w.heap.size w w' := by
  obtain ⟨er, lo, hi, sg, fb, st, rfl, h1⟩ := hc
  refine enter (fun _ => False) 6 [] Tryz.func61 rfl rfl rfl (vs := [.agg #[.int .i64 (ty : Nat), er, lo, hi, sg, fb, st]]) (Has.nil _) ?_
  conv => arg 2; arg 2; whnf
  by_cases h : ty = 13
  · repeat' (first | refine cseq ?_ | refine rtext ?_ | refine cret ?_ | refine jnil ?_ | (first | (show Jo _ (.fieldAddr _ _ _); refine jy (yfield rfl fb88_0' rfl) rfl rfl ?_) | (show Jo _ (.load _ _); refine jy (yload (i := 0) rfl rfl rfl one85') rfl rfl ?_) | refine jas_ rfl rfl rfl ?_ | (show Jo _ (.binOp _ _ _ _ _); refine jy (yeql rfl rfl (by (exact decide_eq_true (by omega)))) rfl rfl ?_) | (show Jo _ (.box _ _); refine jbox rfl rfl rfl (fun gb hT => ?_))))
    exact ret1 rfl rfl rfl (fun w' hw' => ⟨by rw [decide_eq_true h], hw'.2.below (fun k _ h => h) (Nat.le_refl _)⟩)
  · repeat' (first | refine cseq ?_ | refine rtext ?_ | refine cret ?_ | refine jnil ?_ | (first | (show Jo _ (.fieldAddr _ _ _); refine jy (yfield rfl fb88_0' rfl) rfl rfl ?_) | (show Jo _ (.load _ _); refine jy (yload (i := 0) rfl rfl rfl one85') rfl rfl ?_) | refine jas_ rfl rfl rfl ?_ | (show Jo _ (.binOp _ _ _ _ _); refine jy (yeql rfl rfl (by (exact decide_eq_false (by omega)))) rfl rfl ?_) | (show Jo _ (.box _ _); refine jbox rfl rfl rfl (fun gb hT => ?_))))
    exact ret1 rfl rfl rfl (fun w' hw' => ⟨by rw [decide_eq_false h], hw'.2.below (fun k _ h => h) (Nat.le_refl _)⟩)
theorem bq76 : bodyB Tryz.prog 62 = true := by kernel_rfl
theorem q76_calls {w : World} {ty : Nat} {cs : List Value} (hc : IC ty cs) : Calls Tryz.prog 62 #[.agg cs.toArray] w fun e w' => e = .returned (.bool (decide (ty = 14))) ∧ Below w.heap.size w w' := by
  obtain ⟨er, lo, hi, sg, fb, st, rfl, h1⟩ := hc
  refine enter (fun _ => False) 6 [] Tryz.func62 rfl rfl rfl (vs := [.agg #[.int .i64 (ty : Nat), er, lo, hi, sg, fb, st]]) (Has.nil _) ?_
  conv => arg 2; arg 2; whnf
  by_cases h : ty = 14
  · repeat' (first | refine cseq ?_ | refine rtext ?_ | refine cret ?_ | refine jnil ?_ | (first | (show Jo _ (.fieldAddr _ _ _); refine jy (yfield rfl fb88_0' rfl) rfl rfl ?_) | (show Jo _ (.load _ _); refine jy (yload (i := 0) rfl rfl rfl one85') rfl rfl ?_) | refine jas_ rfl rfl rfl ?_ | (show Jo _ (.binOp _ _ _ _ _); refine jy (yeql rfl rfl (by (exact decide_eq_true (by omega)))) rfl rfl ?_) | (show Jo _ (.box _ _); refine jbox rfl rfl rfl (fun gb hT => ?_))))
    exact ret1 rfl rfl rfl (fun w' hw' => ⟨by rw [decide_eq_true h], hw'.2.below (fun k _ h => h) (Nat.le_refl _)⟩)
  · repeat' (first | refine cseq ?_ | refine rtext ?_ | refine cret ?_ | refine jnil ?_ | (first | (show Jo _ (.fieldAddr _ _ _); refine jy (yfield rfl fb88_0' rfl) rfl rfl ?_) | (show Jo _ (.load _ _); refine jy (yload (i := 0) rfl rfl rfl one85') rfl rfl ?_) | refine jas_ rfl rfl rfl ?_ | (show Jo _ (.binOp _ _ _ _ _); refine jy (yeql rfl rfl (by (exact decide_eq_false (by omega)))) rfl rfl ?_) | (show Jo _ (.box _ _); refine jbox rfl rfl rfl (fun gb hT => ?_))))
    exact ret1 rfl rfl rfl (fun w' hw' => ⟨by rw [decide_eq_false h], hw'.2.below (fun k _ h => h) (Nat.le_refl _)⟩)
theorem bq77 : bodyB Tryz.prog 63 = true := by kernel_rfl
theorem q77_calls {w : World} {ty : Nat} {cs : List Value} (hc : IC ty cs) : Calls Tryz.prog 63 #[.agg cs.toArray] w fun e w' => e = .returned (.bool (decide (ty = 10 ∨ ty = 8))) ∧ Below w.heap.size w w' := by
  obtain ⟨er, lo, hi, sg, fb, st, rfl, h1⟩ := hc
  refine enter (fun _ => False) 11 [] Tryz.func63 rfl rfl rfl (vs := [.agg #[.int .i64 (ty : Nat), er, lo, hi, sg, fb, st]]) (Has.nil _) ?_
  conv => arg 2; arg 2; whnf
  by_cases h : ty = 10
  · repeat' (first | refine cseq ?_ | refine rtext ?_ | refine cret ?_ | refine jnil ?_ | (first | refine js rfl rfl ?_ | refine jmv rfl rfl rfl ?_ | (show Jo _ (.fieldAddr _ _ _); refine jy (yfield rfl fb88_0' rfl) rfl rfl ?_) | (show Jo _ (.load _ _); refine jy (yload (i := 0) rfl rfl rfl one85') rfl rfl ?_) | refine jas_ rfl rfl rfl ?_ | (show Jo _ (.binOp _ _ _ _ _); refine jy (yeql rfl rfl (by (exact decide_eq_true (by omega)))) rfl rfl ?_) | (show Jo _ (.pick _ _ _); refine jy (ypick1 rfl rfl) rfl rfl ?_) | (show Jo _ (.box _ _); refine jbox rfl rfl rfl (fun gb hT => ?_))))
    exact ret1 rfl rfl rfl (fun w' hw' => ⟨by rw [decide_eq_true (.inl h)], hw'.2.below (fun k _ h => h) (Nat.le_refl _)⟩)
  · by_cases h' : ty = 8
    · repeat' (first | refine cseq ?_ | refine rtext ?_ | refine cret ?_ | refine jnil ?_ | (first | refine jmv rfl rfl rfl ?_ | (show Jo _ (.fieldAddr _ _ _); refine jy (yfield rfl fb88_0' rfl) rfl rfl ?_) | (show Jo _ (.load _ _); refine jy (yload (i := 0) rfl rfl rfl one85') rfl rfl ?_) | refine jas_ rfl rfl rfl ?_ | (show Jo _ (.binOp _ _ _ _ _); (refine jy (yeql rfl rfl (by first | exact decide_eq_true (by omega) | exact decide_eq_false (by omega))) rfl rfl ?_)) | (show Jo _ (.pick _ _ _); refine jy (ypick0 rfl rfl) rfl rfl ?_) | (show Jo _ (.box _ _); refine jbox rfl rfl rfl (fun gb hT => ?_))))
      exact ret1 rfl rfl rfl (fun w' hw' => ⟨by rw [decide_eq_true (.inr h')], hw'.2.below (fun k _ h => h) (Nat.le_refl _)⟩)
    · repeat' (first | refine cseq ?_ | refine rtext ?_ | refine cret ?_ | refine jnil ?_ | (first | refine jmv rfl rfl rfl ?_ | (show Jo _ (.fieldAddr _ _ _); refine jy (yfield rfl fb88_0' rfl) rfl rfl ?_) | (show Jo _ (.load _ _); refine jy (yload (i := 0) rfl rfl rfl one85') rfl rfl ?_) | refine jas_ rfl rfl rfl ?_ | (show Jo _ (.binOp _ _ _ _ _); refine jy (yeql rfl rfl (by (exact decide_eq_false (by omega)))) rfl rfl ?_) | (show Jo _ (.pick _ _ _); refine jy (ypick0 rfl rfl) rfl rfl ?_) | (show Jo _ (.box _ _); refine jbox rfl rfl rfl (fun gb hT => ?_))))
      exact ret1 rfl rfl rfl (fun w' hw' => ⟨by rw [decide_eq_false (fun x => x.elim h h')], hw'.2.below (fun k _ h => h) (Nat.le_refl _)⟩)
theorem bq78 : bodyB Tryz.prog 64 = true := by kernel_rfl
theorem q78_calls {w : World} {ty : Nat} {cs : List Value} (hc : IC ty cs) : Calls Tryz.prog 64 #[.agg cs.toArray] w fun e w' => e = .returned (.bool (decide (ty = 11 ∨ ty = 9))) ∧ Below w.heap.size w w' := by
  obtain ⟨er, lo, hi, sg, fb, st, rfl, h1⟩ := hc
  refine enter (fun _ => False) 11 [] Tryz.func64 rfl rfl rfl (vs := [.agg #[.int .i64 (ty : Nat), er, lo, hi, sg, fb, st]]) (Has.nil _) ?_
  conv => arg 2; arg 2; whnf
  by_cases h : ty = 11
  · repeat' (first | refine cseq ?_ | refine rtext ?_ | refine cret ?_ | refine jnil ?_ | (first | refine js rfl rfl ?_ | refine jmv rfl rfl rfl ?_ | (show Jo _ (.fieldAddr _ _ _); refine jy (yfield rfl fb88_0' rfl) rfl rfl ?_) | (show Jo _ (.load _ _); refine jy (yload (i := 0) rfl rfl rfl one85') rfl rfl ?_) | refine jas_ rfl rfl rfl ?_ | (show Jo _ (.binOp _ _ _ _ _); refine jy (yeql rfl rfl (by (exact decide_eq_true (by omega)))) rfl rfl ?_) | (show Jo _ (.pick _ _ _); refine jy (ypick1 rfl rfl) rfl rfl ?_) | (show Jo _ (.box _ _); refine jbox rfl rfl rfl (fun gb hT => ?_))))
    exact ret1 rfl rfl rfl (fun w' hw' => ⟨by rw [decide_eq_true (.inl h)], hw'.2.below (fun k _ h => h) (Nat.le_refl _)⟩)
  · by_cases h' : ty = 9
    · repeat' (first | refine cseq ?_ | refine rtext ?_ | refine cret ?_ | refine jnil ?_ | (first | refine jmv rfl rfl rfl ?_ | (show Jo _ (.fieldAddr _ _ _); refine jy (yfield rfl fb88_0' rfl) rfl rfl ?_) | (show Jo _ (.load _ _); refine jy (yload (i := 0) rfl rfl rfl one85') rfl rfl ?_) | refine jas_ rfl rfl rfl ?_ | (show Jo _ (.binOp _ _ _ _ _); (refine jy (yeql rfl rfl (by first | exact decide_eq_true (by omega) | exact decide_eq_false (by omega))) rfl rfl ?_)) | (show Jo _ (.pick _ _ _); refine jy (ypick0 rfl rfl) rfl rfl ?_) | (show Jo _ (.box _ _); refine jbox rfl rfl rfl (fun gb hT => ?_))))
      exact ret1 rfl rfl rfl (fun w' hw' => ⟨by rw [decide_eq_true (.inr h')], hw'.2.below (fun k _ h => h) (Nat.le_refl _)⟩)
    · repeat' (first | refine cseq ?_ | refine rtext ?_ | refine cret ?_ | refine jnil ?_ | (first | refine jmv rfl rfl rfl ?_ | (show Jo _ (.fieldAddr _ _ _); refine jy (yfield rfl fb88_0' rfl) rfl rfl ?_) | (show Jo _ (.load _ _); refine jy (yload (i := 0) rfl rfl rfl one85') rfl rfl ?_) | refine jas_ rfl rfl rfl ?_ | (show Jo _ (.binOp _ _ _ _ _); refine jy (yeql rfl rfl (by (exact decide_eq_false (by omega)))) rfl rfl ?_) | (show Jo _ (.pick _ _ _); refine jy (ypick0 rfl rfl) rfl rfl ?_) | (show Jo _ (.box _ _); refine jbox rfl rfl rfl (fun gb hT => ?_))))
      exact ret1 rfl rfl rfl (fun w' hw' => ⟨by rw [decide_eq_false (fun x => x.elim h h')], hw'.2.below (fun k _ h => h) (Nat.le_refl _)⟩)
theorem bq79 : bodyB Tryz.prog 65 = true := by kernel_rfl
theorem q79_calls {w : World} {ty : Nat} {cs : List Value} (hc : IC ty cs) : Calls Tryz.prog 65 #[.agg cs.toArray] w fun e w' => e = .returned (.bool (decide (ty = 12))) ∧ Below w.heap.size w w' := by
  obtain ⟨er, lo, hi, sg, fb, st, rfl, h1⟩ := hc
  refine enter (fun _ => False) 6 [] Tryz.func65 rfl rfl rfl (vs := [.agg #[.int .i64 (ty : Nat), er, lo, hi, sg, fb, st]]) (Has.nil _) ?_
  conv => arg 2; arg 2; whnf
  by_cases h : ty = 12
  · repeat' (first | refine cseq ?_ | refine rtext ?_ | refine cret ?_ | refine jnil ?_ | (first | (show Jo _ (.fieldAddr _ _ _); refine jy (yfield rfl fb88_0' rfl) rfl rfl ?_) | (show Jo _ (.load _ _); refine jy (yload (i := 0) rfl rfl rfl one85') rfl rfl ?_) | refine jas_ rfl rfl rfl ?_ | (show Jo _ (.binOp _ _ _ _ _); refine jy (yeql rfl rfl (by (exact decide_eq_true (by omega)))) rfl rfl ?_) | (show Jo _ (.box _ _); refine jbox rfl rfl rfl (fun gb hT => ?_))))
    exact ret1 rfl rfl rfl (fun w' hw' => ⟨by rw [decide_eq_true h], hw'.2.below (fun k _ h => h) (Nat.le_refl _)⟩)
  · repeat' (first | refine cseq ?_ | refine rtext ?_ | refine cret ?_ | refine jnil ?_ | (first | (show Jo _ (.fieldAddr _ _ _); refine jy (yfield rfl fb88_0' rfl) rfl rfl ?_) | (show Jo _ (.load _ _); refine jy (yload (i := 0) rfl rfl rfl one85') rfl rfl ?_) | refine jas_ rfl rfl rfl ?_ | (show Jo _ (.binOp _ _ _ _ _); refine jy (yeql rfl rfl (by (exact decide_eq_false (by omega)))) rfl rfl ?_) | (show Jo _ (.box _ _); refine jbox rfl rfl rfl (fun gb hT => ?_))))
    exact ret1 rfl rfl rfl (fun w' hw' => ⟨by rw [decide_eq_false h], hw'.2.below (fun k _ h => h) (Nat.le_refl _)⟩)
theorem bq80 : bodyB Tryz.prog 66 = true := by kernel_rfl
theorem q80_calls {w : World} {ty : Nat} {cs : List Value} (hc : IC ty cs) : Calls Tryz.prog 66 #[.agg cs.toArray] w fun e w' => e = .returned (.bool (decide (ty = 15))) ∧ Below w.heap.size w w' := by
  obtain ⟨er, lo, hi, sg, fb, st, rfl, h1⟩ := hc
  refine enter (fun _ => False) 6 [] Tryz.func66 rfl rfl rfl (vs := [.agg #[.int .i64 (ty : Nat), er, lo, hi, sg, fb, st]]) (Has.nil _) ?_
  conv => arg 2; arg 2; whnf
  by_cases h : ty = 15
  · repeat' (first | refine cseq ?_ | refine rtext ?_ | refine cret ?_ | refine jnil ?_ | (first | (show Jo _ (.fieldAddr _ _ _); refine jy (yfield rfl fb88_0' rfl) rfl rfl ?_) | (show Jo _ (.load _ _); refine jy (yload (i := 0) rfl rfl rfl one85') rfl rfl ?_) | refine jas_ rfl rfl rfl ?_ | (show Jo _ (.binOp _ _ _ _ _); refine jy (yeql rfl rfl (by (exact decide_eq_true (by omega)))) rfl rfl ?_) | (show Jo _ (.box _ _); refine jbox rfl rfl rfl (fun gb hT => ?_))))
    exact ret1 rfl rfl rfl (fun w' hw' => ⟨by rw [decide_eq_true h], hw'.2.below (fun k _ h => h) (Nat.le_refl _)⟩)
  · repeat' (first | refine cseq ?_ | refine rtext ?_ | refine cret ?_ | refine jnil ?_ | (first | (show Jo _ (.fieldAddr _ _ _); refine jy (yfield rfl fb88_0' rfl) rfl rfl ?_) | (show Jo _ (.load _ _); refine jy (yload (i := 0) rfl rfl rfl one85') rfl rfl ?_) | refine jas_ rfl rfl rfl ?_ | (show Jo _ (.binOp _ _ _ _ _); refine jy (yeql rfl rfl (by (exact decide_eq_false (by omega)))) rfl rfl ?_) | (show Jo _ (.box _ _); refine jbox rfl rfl rfl (fun gb hT => ?_))))
    exact ret1 rfl rfl rfl (fun w' hw' => ⟨by rw [decide_eq_false h], hw'.2.below (fun k _ h => h) (Nat.le_refl _)⟩)
theorem bq81 : bodyB Tryz.prog 67 = true := by kernel_rfl
theorem q81_calls {w : World} {ty : Nat} {cs : List Value} (hc : IC ty cs) : Calls Tryz.prog 67 #[.agg cs.toArray] w fun e w' => e = .returned (.bool (decide (ty = 16))) ∧ Below w.heap.size w w' := by
  obtain ⟨er, lo, hi, sg, fb, st, rfl, h1⟩ := hc
  refine enter (fun _ => False) 6 [] Tryz.func67 rfl rfl rfl (vs := [.agg #[.int .i64 (ty : Nat), er, lo, hi, sg, fb, st]]) (Has.nil _) ?_
  conv => arg 2; arg 2; whnf
  by_cases h : ty = 16
  · repeat' (first | refine cseq ?_ | refine rtext ?_ | refine cret ?_ | refine jnil ?_ | (first | (show Jo _ (.fieldAddr _ _ _); refine jy (yfield rfl fb88_0' rfl) rfl rfl ?_) | (show Jo _ (.load _ _); refine jy (yload (i := 0) rfl rfl rfl one85') rfl rfl ?_) | refine jas_ rfl rfl rfl ?_ | (show Jo _ (.binOp _ _ _ _ _); refine jy (yeql rfl rfl (by (exact decide_eq_true (by omega)))) rfl rfl ?_) | (show Jo _ (.box _ _); refine jbox rfl rfl rfl (fun gb hT => ?_))))
    exact ret1 rfl rfl rfl (fun w' hw' => ⟨by rw [decide_eq_true h], hw'.2.below (fun k _ h => h) (Nat.le_refl _)⟩)
  · repeat' (first | refine cseq ?_ | refine rtext ?_ | refine cret ?_ | refine jnil ?_ | (first | (show Jo _ (.fieldAddr _ _ _); refine jy (yfield rfl fb88_0' rfl) rfl rfl ?_) | (show Jo _ (.load _ _); refine jy (yload (i := 0) rfl rfl rfl one85') rfl rfl ?_) | refine jas_ rfl rfl rfl ?_ | (show Jo _ (.binOp _ _ _ _ _); refine jy (yeql rfl rfl (by (exact decide_eq_false (by omega)))) rfl rfl ?_) | (show Jo _ (.box _ _); refine jbox rfl rfl rfl (fun gb hT => ?_))))
    exact ret1 rfl rfl rfl (fun w' hw' => ⟨by rw [decide_eq_false h], hw'.2.below (fun k _ h => h) (Nat.le_refl _)⟩)
theorem bq82 : bodyB Tryz.prog 68 = true := by kernel_rfl
theorem q82_calls {w : World} {ty : Nat} {cs : List Value} (hc : IC ty cs) : Calls Tryz.prog 68 #[.agg cs.toArray] w fun e w' => e = .returned (.bool (decide (ty = 10 ∨ ty = 11))) ∧ Below w.heap.size w w' := by
  obtain ⟨er, lo, hi, sg, fb, st, rfl, h1⟩ := hc
  refine enter (fun _ => False) 11 [] Tryz.func68 rfl rfl rfl (vs := [.agg #[.int .i64 (ty : Nat), er, lo, hi, sg, fb, st]]) (Has.nil _) ?_
  conv => arg 2; arg 2; whnf
  by_cases h : ty = 10
  · repeat' (first | refine cseq ?_ | refine rtext ?_ | refine cret ?_ | refine jnil ?_ | (first | refine js rfl rfl ?_ | refine jmv rfl rfl rfl ?_ | (show Jo _ (.fieldAddr _ _ _); refine jy (yfield rfl fb88_0' rfl) rfl rfl ?_) | (show Jo _ (.load _ _); refine jy (yload (i := 0) rfl rfl rfl one85') rfl rfl ?_) | refine jas_ rfl rfl rfl ?_ | (show Jo _ (.binOp _ _ _ _ _); refine jy (yeql rfl rfl (by (exact decide_eq_true (by omega)))) rfl rfl ?_) | (show Jo _ (.pick _ _ _); refine jy (ypick1 rfl rfl) rfl rfl ?_) | (show Jo _ (.box _ _); refine jbox rfl rfl rfl (fun gb hT => ?_))))
    exact ret1 rfl rfl rfl (fun w' hw' => ⟨by rw [decide_eq_true (.inl h)], hw'.2.below (fun k _ h => h) (Nat.le_refl _)⟩)
  · by_cases h' : ty = 11
    · repeat' (first | refine cseq ?_ | refine rtext ?_ | refine cret ?_ | refine jnil ?_ | (first | refine jmv rfl rfl rfl ?_ | (show Jo _ (.fieldAddr _ _ _); refine jy (yfield rfl fb88_0' rfl) rfl rfl ?_) | (show Jo _ (.load _ _); refine jy (yload (i := 0) rfl rfl rfl one85') rfl rfl ?_) | refine jas_ rfl rfl rfl ?_ | (show Jo _ (.binOp _ _ _ _ _); (refine jy (yeql rfl rfl (by first | exact decide_eq_true (by omega) | exact decide_eq_false (by omega))) rfl rfl ?_)) | (show Jo _ (.pick _ _ _); refine jy (ypick0 rfl rfl) rfl rfl ?_) | (show Jo _ (.box _ _); refine jbox rfl rfl rfl (fun gb hT => ?_))))
      exact ret1 rfl rfl rfl (fun w' hw' => ⟨by rw [decide_eq_true (.inr h')], hw'.2.below (fun k _ h => h) (Nat.le_refl _)⟩)
    · repeat' (first | refine cseq ?_ | refine rtext ?_ | refine cret ?_ | refine jnil ?_ | (first | refine jmv rfl rfl rfl ?_ | (show Jo _ (.fieldAddr _ _ _); refine jy (yfield rfl fb88_0' rfl) rfl rfl ?_) | (show Jo _ (.load _ _); refine jy (yload (i := 0) rfl rfl rfl one85') rfl rfl ?_) | refine jas_ rfl rfl rfl ?_ | (show Jo _ (.binOp _ _ _ _ _); refine jy (yeql rfl rfl (by (exact decide_eq_false (by omega)))) rfl rfl ?_) | (show Jo _ (.pick _ _ _); refine jy (ypick0 rfl rfl) rfl rfl ?_) | (show Jo _ (.box _ _); refine jbox rfl rfl rfl (fun gb hT => ?_))))
      exact ret1 rfl rfl rfl (fun w' hw' => ⟨by rw [decide_eq_false (fun x => x.elim h h')], hw'.2.below (fun k _ h => h) (Nat.le_refl _)⟩)
theorem bq85 : bodyB Tryz.prog 71 = true := by kernel_rfl
theorem q85_calls {w : World} {ty : Nat} {cs : List Value} (hc : IC ty cs) : Calls Tryz.prog 71 #[.agg cs.toArray] w fun e w' => e = .returned (.bool (decide (ty = 1))) ∧ Below w.heap.size w w' := by
  obtain ⟨er, lo, hi, sg, fb, st, rfl, h1⟩ := hc
  refine enter (fun _ => False) 6 [] Tryz.func71 rfl rfl rfl (vs := [.agg #[.int .i64 (ty : Nat), er, lo, hi, sg, fb, st]]) (Has.nil _) ?_
  conv => arg 2; arg 2; whnf
  by_cases h : ty = 1
  · repeat' (first | refine cseq ?_ | refine rtext ?_ | refine cret ?_ | refine jnil ?_ | (first | (show Jo _ (.fieldAddr _ _ _); refine jy (yfield rfl fb88_0' rfl) rfl rfl ?_) | (show Jo _ (.load _ _); refine jy (yload (i := 0) rfl rfl rfl one85') rfl rfl ?_) | refine jas_ rfl rfl rfl ?_ | (show Jo _ (.binOp _ _ _ _ _); refine jy (yeql rfl rfl (by (exact decide_eq_true (by omega)))) rfl rfl ?_) | (show Jo _ (.box _ _); refine jbox rfl rfl rfl (fun gb hT => ?_))))
    exact ret1 rfl rfl rfl (fun w' hw' => ⟨by rw [decide_eq_true h], hw'.2.below (fun k _ h => h) (Nat.le_refl _)⟩)
  · repeat' (first | refine cseq ?_ | refine rtext ?_ | refine cret ?_ | refine jnil ?_ | (first | (show Jo _ (.fieldAddr _ _ _); refine jy (yfield rfl fb88_0' rfl) rfl rfl ?_) | (show Jo _ (.load _ _); refine jy (yload (i := 0) rfl rfl rfl one85') rfl rfl ?_) | refine jas_ rfl rfl rfl ?_ | (show Jo _ (.binOp _ _ _ _ _); refine jy (yeql rfl rfl (by (exact decide_eq_false (by omega)))) rfl rfl ?_) | (show Jo _ (.box _ _); refine jbox rfl rfl rfl (fun gb hT => ?_))))
    exact ret1 rfl rfl rfl (fun w' hw' => ⟨by rw [decide_eq_false h], hw'.2.below (fun k _ h => h) (Nat.le_refl _)⟩)
theorem bq86 : bodyB Tryz.prog 72 = true := by kernel_rfl
theorem q86_calls {w : World} {ty : Nat} {cs : List Value} (hc : IC ty cs) : Calls Tryz.prog 72 #[.agg cs.toArray] w fun e w' => e = .returned (.bool (decide (ty = 0))) ∧ Below w.heap.size w w' := by
  obtain ⟨er, lo, hi, sg, fb, st, rfl, h1⟩ := hc
  refine enter (fun _ => False) 6 [] Tryz.func72 rfl rfl rfl (vs := [.agg #[.int .i64 (ty : Nat), er, lo, hi, sg, fb, st]]) (Has.nil _) ?_
  conv => arg 2; arg 2; whnf
  by_cases h : ty = 0
  · repeat' (first | refine cseq ?_ | refine rtext ?_ | refine cret ?_ | refine jnil ?_ | (first | (show Jo _ (.fieldAddr _ _ _); refine jy (yfield rfl fb88_0' rfl) rfl rfl ?_) | (show Jo _ (.load _ _); refine jy (yload (i := 0) rfl rfl rfl one85') rfl rfl ?_) | refine jas_ rfl rfl rfl ?_ | (show Jo _ (.binOp _ _ _ _ _); refine jy (yeql rfl rfl (by (exact decide_eq_true (by omega)))) rfl rfl ?_) | (show Jo _ (.box _ _); refine jbox rfl rfl rfl (fun gb hT => ?_))))
    exact ret1 rfl rfl rfl (fun w' hw' => ⟨by rw [decide_eq_true h], hw'.2.below (fun k _ h => h) (Nat.le_refl _)⟩)
  · repeat' (first | refine cseq ?_ | refine rtext ?_ | refine cret ?_ | refine jnil ?_ | (first | (show Jo _ (.fieldAddr _ _ _); refine jy (yfield rfl fb88_0' rfl) rfl rfl ?_) | (show Jo _ (.load _ _); refine jy (yload (i := 0) rfl rfl rfl one85') rfl rfl ?_) | refine jas_ rfl rfl rfl ?_ | (show Jo _ (.binOp _ _ _ _ _); refine jy (yeql rfl rfl (by (exact decide_eq_false (by omega)))) rfl rfl ?_) | (show Jo _ (.box _ _); refine jbox rfl rfl rfl (fun gb hT => ?_))))
    exact ret1 rfl rfl rfl (fun w' hw' => ⟨by rw [decide_eq_false h], hw'.2.below (fun k _ h => h) (Nat.le_refl _)⟩)
theorem bq83 : bodyB Tryz.prog 69 = true := by kernel_rfl
theorem q83_calls {w : World} {ty : Nat} {cs : List Value} (hc : IC ty cs) : Calls Tryz.prog 69 #[.agg cs.toArray] w fun e w' => e = .returned (.bool (decide (3 ≤ ty ∧ ty ≤ 6))) ∧ Below w.heap.size w w' := by
  obtain ⟨er, lo, hi, sg, fb, st, rfl, h1⟩ := hc
  refine enter (fun _ => False) 11 [] Tryz.func69 rfl rfl rfl (vs := [.agg #[.int .i64 (ty : Nat), er, lo, hi, sg, fb, st]]) (Has.nil _) ?_
  conv => arg 2; arg 2; whnf
  by_cases h : 3 ≤ ty
  · by_cases h' : ty ≤ 6
    · repeat' (first | refine cseq ?_ | refine rtext ?_ | refine cret ?_ | refine jnil ?_ | (first | refine jmv rfl rfl rfl ?_ | (show Jo _ (.fieldAddr _ _ _); refine jy (yfield rfl fb88_0' rfl) rfl rfl ?_) | (show Jo _ (.load _ _); refine jy (yload (i := 0) rfl rfl rfl one85') rfl rfl ?_) | refine jas_ rfl rfl rfl ?_ | (show Jo _ (.binOp _ _ _ _ _); first | (show Jo _ (.binOp .leq _ _ _ _); refine jy (yleq rfl rfl (by (exact decide_eq_true (by omega)))) rfl rfl ?_) | refine jy (ygeq rfl rfl (by (exact decide_eq_true (by omega)))) rfl rfl ?_) | (show Jo _ (.pick _ _ _); refine jy (ypick1 rfl rfl) rfl rfl ?_) | (show Jo _ (.box _ _); refine jbox rfl rfl rfl (fun gb hT => ?_))))
      exact ret1 rfl rfl rfl (fun w' hw' => ⟨by rw [decide_eq_true ⟨h, h'⟩], hw'.2.below (fun k _ h => h) (Nat.le_refl _)⟩)
    · repeat' (first | refine cseq ?_ | refine rtext ?_ | refine cret ?_ | refine jnil ?_ | (first | refine jmv rfl rfl rfl ?_ | (show Jo _ (.fieldAddr _ _ _); refine jy (yfield rfl fb88_0' rfl) rfl rfl ?_) | (show Jo _ (.load _ _); refine jy (yload (i := 0) rfl rfl rfl one85') rfl rfl ?_) | refine jas_ rfl rfl rfl ?_ | (show Jo _ (.binOp _ _ _ _ _); first | (show Jo _ (.binOp .leq _ _ _ _); refine jy (yleq rfl rfl (by (exact decide_eq_false (by omega)))) rfl rfl ?_) | refine jy (ygeq rfl rfl (by (exact decide_eq_true (by omega)))) rfl rfl ?_) | (show Jo _ (.pick _ _ _); refine jy (ypick1 rfl rfl) rfl rfl ?_) | (show Jo _ (.box _ _); refine jbox rfl rfl rfl (fun gb hT => ?_))))
      exact ret1 rfl rfl rfl (fun w' hw' => ⟨by rw [decide_eq_false (fun x => h' x.2)], hw'.2.below (fun k _ h => h) (Nat.le_refl _)⟩)
  · repeat' (first | refine cseq ?_ | refine rtext ?_ | refine cret ?_ | refine jnil ?_ | (first | refine js rfl rfl ?_ | refine jmv rfl rfl rfl ?_ | (show Jo _ (.fieldAddr _ _ _); refine jy (yfield rfl fb88_0' rfl) rfl rfl ?_) | (show Jo _ (.load _ _); refine jy (yload (i := 0) rfl rfl rfl one85') rfl rfl ?_) | refine jas_ rfl rfl rfl ?_ | (show Jo _ (.binOp _ _ _ _ _); refine jy (ygeq rfl rfl (by (exact decide_eq_false (by omega)))) rfl rfl ?_) | (show Jo _ (.pick _ _ _); refine jy (ypick0 rfl rfl) rfl rfl ?_) | (show Jo _ (.box _ _); refine jbox rfl rfl rfl (fun gb hT => ?_))))
    exact ret1 rfl rfl rfl (fun w' hw' => ⟨by rw [decide_eq_false (fun x => h x.1)], hw'.2.below (fun k _ h => h) (Nat.le_refl _)⟩)
theorem bq84 : bodyB Tryz.prog 70 = true := by kernel_rfl
theorem q84_calls {w : World} {ty : Nat} {cs : List Value} (hc : IC ty cs) : Calls Tryz.prog 70 #[.agg cs.toArray] w fun e w' => e = .returned (.bool (decide (ty = 0 ∨ ty = 1))) ∧ Below w.heap.size w w' := by
  have hc0 := hc
  obtain ⟨er, lo, hi, sg, fb, st, hcs, h1⟩ := hc0
  subst hcs
  refine enter (fun _ => False) 9 [] Tryz.func70 rfl rfl rfl (vs := [.agg #[.int .i64 (ty : Nat), er, lo, hi, sg, fb, st]]) (Has.nil _) ?_
  conv => arg 2; arg 2; whnf
  by_cases h : ty = 0
  · repeat' (first | refine cseq ?_ | refine rtext ?_ | refine cret ?_ | refine jnil ?_ | (first | refine js rfl rfl ?_ | refine jmv rfl rfl rfl ?_ | (show Jo _ (.load _ _); refine jy (yloads (i := 0) rfl rfl ag88) rfl rfl ?_) | refine jas_ rfl rfl rfl ?_ | (show Jo _ (.pick _ _ _); refine jy (ypick1 rfl rfl) rfl rfl ?_) | (show Jo _ (.call _); ((show Jo _ (.call ⟨.value (.func 72), _, _⟩); (refine jcallq (v := .bool true) bq86 rfl rfl rfl (quietC fun w' _ => by have := q86_calls (w := w') (ty := ty) hc; rwa [decide_eq_true (by omega)] at this) ?_)))) | (show Jo _ (.box _ _); refine jbox rfl rfl rfl (fun gb hT => ?_))))
    exact ret1 rfl rfl rfl (fun w' hw' => ⟨by rw [decide_eq_true (.inl h)], hw'.2.below (fun k _ h => h) (Nat.le_refl _)⟩)
  · by_cases h' : ty = 1
    · repeat' (first | refine cseq ?_ | refine rtext ?_ | refine cret ?_ | refine jnil ?_ | (first | refine jmv rfl rfl rfl ?_ | (show Jo _ (.load _ _); refine jy (yloads (i := 0) rfl rfl ag88) rfl rfl ?_) | refine jas_ rfl rfl rfl ?_ | (show Jo _ (.pick _ _ _); refine jy (ypick0 rfl rfl) rfl rfl ?_) | (show Jo _ (.call _); first | (show Jo _ (.call ⟨.value (.func 72), _, _⟩); (refine jcallq (v := .bool false) bq86 rfl rfl rfl (quietC fun w' _ => by have := q86_calls (w := w') (ty := ty) hc; rwa [decide_eq_false (by omega)] at this) ?_)) | (show Jo _ (.call ⟨.value (.func 71), _, _⟩); (refine jcallq (v := .bool true) bq85 rfl rfl rfl (quietC fun w' _ => by have := q85_calls (w := w') (ty := ty) hc; rwa [decide_eq_true (by omega)] at this) ?_))) | (show Jo _ (.box _ _); refine jbox rfl rfl rfl (fun gb hT => ?_))))
      exact ret1 rfl rfl rfl (fun w' hw' => ⟨by rw [decide_eq_true (.inr h')], hw'.2.below (fun k _ h => h) (Nat.le_refl _)⟩)
    · repeat' (first | refine cseq ?_ | refine rtext ?_ | refine cret ?_ | refine jnil ?_ | (first | refine jmv rfl rfl rfl ?_ | (show Jo _ (.load _ _); refine jy (yloads (i := 0) rfl rfl ag88) rfl rfl ?_) | refine jas_ rfl rfl rfl ?_ | (show Jo _ (.pick _ _ _); refine jy (ypick0 rfl rfl) rfl rfl ?_) | (show Jo _ (.call _); first | (show Jo _ (.call ⟨.value (.func 72), _, _⟩); (refine jcallq (v := .bool false) bq86 rfl rfl rfl (quietC fun w' _ => by have := q86_calls (w := w') (ty := ty) hc; rwa [decide_eq_false (by omega)] at this) ?_)) | (show Jo _ (.call ⟨.value (.func 71), _, _⟩); (refine jcallq (v := .bool false) bq85 rfl rfl rfl (quietC fun w' _ => by have := q85_calls (w := w') (ty := ty) hc; rwa [decide_eq_false (by omega)] at this) ?_))) | (show Jo _ (.box _ _); refine jbox rfl rfl rfl (fun gb hT => ?_))))
      exact ret1 rfl rfl rfl (fun w' hw' => ⟨by rw [decide_eq_false (fun x => x.elim h h')], hw'.2.below (fun k _ h => h) (Nat.le_refl _)⟩)
theorem bq72 : bodyB Tryz.prog 58 = true := by kernel_rfl
theorem q72_calls {w : World} {ty : Nat} {cs : List Value} (hc : IC ty cs) : Calls Tryz.prog 58 #[.agg cs.toArray] w fun e w' => e = .returned (.bool (decide (ty = 18 ∨ ty = 17))) ∧ Below w.heap.size w w' := by
  have hc0 := hc
  obtain ⟨er, lo, hi, sg, fb, st, hcs, h1⟩ := hc0
  subst hcs
  refine enter (fun _ => False) 10 [] Tryz.func58 rfl rfl rfl (vs := [.agg #[.int .i64 (ty : Nat), er, lo, hi, sg, fb, st]]) (Has.nil _) ?_
  conv => arg 2; arg 2; whnf
  by_cases h : ty = 18
  · repeat' (first | refine cseq ?_ | refine rtext ?_ | refine cret ?_ | refine jnil ?_ | (first | refine js rfl rfl ?_ | refine jmv rfl rfl rfl ?_ | (show Jo _ (.fieldAddr _ _ _); refine jy (yfield rfl fb88_0' rfl) rfl rfl ?_) | (show Jo _ (.load _ _); refine jy (yload (i := 0) rfl rfl rfl one85') rfl rfl ?_) | refine jas_ rfl rfl rfl ?_ | (show Jo _ (.binOp _ _ _ _ _); refine jy (yeql rfl rfl (by (exact decide_eq_true (by omega)))) rfl rfl ?_) | (show Jo _ (.pick _ _ _); refine jy (ypick1 rfl rfl) rfl rfl ?_) | (show Jo _ (.box _ _); refine jbox rfl rfl rfl (fun gb hT => ?_))))
    exact ret1 rfl rfl rfl (fun w' hw' => ⟨by rw [decide_eq_true (.inl h)], hw'.2.below (fun k _ h => h) (Nat.le_refl _)⟩)
  · by_cases h' : ty = 17
    · repeat' (first | refine cseq ?_ | refine rtext ?_ | refine cret ?_ | refine jnil ?_ | (first | refine jmv rfl rfl rfl ?_ | (show Jo _ (.fieldAddr _ _ _); refine jy (yfield rfl fb88_0' rfl) rfl rfl ?_) | (show Jo _ (.load _ _); first | refine jy (yload (i := 0) rfl rfl rfl one85') rfl rfl ?_ | refine jy (yloads (i := 0) rfl rfl ag88) rfl rfl ?_) | refine jas_ rfl rfl rfl ?_ | (show Jo _ (.binOp _ _ _ _ _); refine jy (yeql rfl rfl (by (exact decide_eq_false (by omega)))) rfl rfl ?_) | (show Jo _ (.pick _ _ _); refine jy (ypick0 rfl rfl) rfl rfl ?_) | (show Jo _ (.call _); ((show Jo _ (.call ⟨.value (.func 59), _, _⟩); (refine jcallq (v := .bool true) bq73 rfl rfl rfl (quietC fun w' _ => by have := q73_calls (w := w') (ty := ty) hc; rwa [decide_eq_true (by omega)] at this) ?_)))) | (show Jo _ (.box _ _); refine jbox rfl rfl rfl (fun gb hT => ?_))))
      exact ret1 rfl rfl rfl (fun w' hw' => ⟨by rw [decide_eq_true (.inr h')], hw'.2.below (fun k _ h => h) (Nat.le_refl _)⟩)
    · repeat' (first | refine cseq ?_ | refine rtext ?_ | refine cret ?_ | refine jnil ?_ | (first | refine jmv rfl rfl rfl ?_ | (show Jo _ (.fieldAddr _ _ _); refine jy (yfield rfl fb88_0' rfl) rfl rfl ?_) | (show Jo _ (.load _ _); first | refine jy (yload (i := 0) rfl rfl rfl one85') rfl rfl ?_ | refine jy (yloads (i := 0) rfl rfl ag88) rfl rfl ?_) | refine jas_ rfl rfl rfl ?_ | (show Jo _ (.binOp _ _ _ _ _); refine jy (yeql rfl rfl (by (exact decide_eq_false (by omega)))) rfl rfl ?_) | (show Jo _ (.pick _ _ _); refine jy (ypick0 rfl rfl) rfl rfl ?_) | (show Jo _ (.call _); ((show Jo _ (.call ⟨.value (.func 59), _, _⟩); (refine jcallq (v := .bool false) bq73 rfl rfl rfl (quietC fun w' _ => by have := q73_calls (w := w') (ty := ty) hc; rwa [decide_eq_false (by omega)] at this) ?_)))) | (show Jo _ (.box _ _); refine jbox rfl rfl rfl (fun gb hT => ?_))))
      exact ret1 rfl rfl rfl (fun w' hw' => ⟨by rw [decide_eq_false (fun x => x.elim h h')], hw'.2.below (fun k _ h => h) (Nat.le_refl _)⟩)
theorem bo107 : bodyB Tryz.prog 87 = true := by kernel_rfl
theorem fb88_3' : fieldB Tryz.prog 78 3 = some 3 := by kernel_rfl
theorem fb126_0' : fieldB Tryz.prog 104 0 = some 0 := by kernel_rfl
theorem fb126_1' : fieldB Tryz.prog 104 1 = some 1 := by kernel_rfl
theorem sz126' : szB Tryz.prog 104 2 = true := by kernel_rfl
theorem und86' : Tryz.prog.underlying 76 = some (.slice 104) := by kernel_rfl
def SegW (w : World) (sg : Value) (segs : List (Nat × Nat)) : Prop := (segs = [] ∧ sg = .slice none 0 0) ∨ ∃ A cap, segs ≠ [] ∧ sg = .slice (some A) segs.length cap ∧ ∀ (j : Nat) u, (segC segs)[j]? = some u → w.cell? (A.add j) = some u
theorem val0_calls {w : World} {s : T} {b o c ty lo hi fb : Nat} {er st : Value} (h1 : er.oneCell' = true) (h2 : st.oneCell' = true) (hB : Byt w (.slice (some ⟨b, o, none⟩) s.length c) s) (hlo : lo ≤ hi) (hhi : hi ≤ s.length) :
    Calls Tryz.prog 87 #[.agg #[.int .i64 (ty : Nat), er, .int .i64 (lo : Nat), .int .i64 (hi : Nat), .slice none 0 0, .int .u8 (fb : Nat), st], .slice (some ⟨b, o, none⟩) s.length c] w fun e w' => ∃ v', e = .returned v' ∧ Byt w' v' (cut s lo hi) ∧ Below w.heap.size w w' := by
  have hcap : s.length ≤ c := by obtain ⟨b', o', c', he, hc, _⟩ := hB; cases he; exact hc
  refine enter (fun _ => False) 50 [] Tryz.func87 rfl rfl rfl (vs := [.agg #[.int .i64 (ty : Nat), er, .int .i64 (lo : Nat), .int .i64 (hi : Nat), .slice none 0 0, .int .u8 (fb : Nat), st], .slice (some ⟨b, o, none⟩) s.length c]) (Has.nil _) ?_
  conv => arg 2; arg 2; whnf
  repeat' (first | refine cseq ?_ | refine rtext ?_ | refine ctrue rfl ?_ | refine cret ?_ | refine tret ?_ | refine jnil ?_ | (first | refine jmv rfl rfl rfl ?_ | (show Jo _ (.fieldAddr _ _ _); refine jy (yfield rfl (by first | exact fb88_2' | exact fb88_3' | exact fb88_4') rfl) rfl rfl ?_) | (show Jo _ (.load _ _); refine jy (yload (i := 0) rfl rfl rfl one3) rfl rfl ?_) | refine jas_ rfl rfl rfl ?_ | (show Jo _ (.binOp _ _ _ _ _); refine jy (yeql rfl rfl (by (exact decide_eq_true (by omega)))) rfl rfl ?_) | (show Jo _ (.call _); ((show Jo _ (.call ⟨.builtin .len, _, _⟩); refine jy (ylenl rfl und86') rfl rfl ?_))) | (show Jo _ (.box _ _); refine jbox rfl rfl rfl (fun gb hT => ?_)) | (show Jo _ (.slice 62 _ (some _) (some _) none); refine jy (yslLH (n := lo) (n' := hi) (kk := hi - lo) rfl rfl rfl und59 sz5 rfl rfl hlo (by omega) rfl rfl rfl) rfl rfl ?_)))
  exact ret1 rfl rfl rfl (fun w' hw' => ⟨_, rfl, (hB.sub lo (hi - lo) (by omega)).below (hw'.2.below (fun k _ h => h) (Nat.le_refl _)) (Nat.le_refl _), hw'.2.below (fun k _ h => h) (Nat.le_refl _)⟩)
theorem val1_calls {w : World} {s : T} {b o c ty l0 h0 lo hi fb cap : Nat} {A : Addr} {er st : Value} (h1 : er.oneCell' = true) (h2 : st.oneCell' = true) (hB : Byt w (.slice (some ⟨b, o, none⟩) s.length c) s) (hlo : lo ≤ hi) (hhi : hi ≤ s.length)
    (hA0 : w.cell? (A.add 0) = some (.int .i64 lo)) (hA1 : w.cell? (A.add 1) = some (.int .i64 hi)) :
    Calls Tryz.prog 87 #[.agg #[.int .i64 (ty : Nat), er, .int .i64 (l0 : Nat), .int .i64 (h0 : Nat), .slice (some A) 1 cap, .int .u8 (fb : Nat), st], .slice (some ⟨b, o, none⟩) s.length c] w fun e w' => ∃ v', e = .returned v' ∧ Byt w' v' (cut s lo hi) ∧ Below w.heap.size w w' := by
  have hcap : s.length ≤ c := by obtain ⟨b', o', c', he, hc, _⟩ := hB; cases he; exact hc
  refine enter (fun _ => False) 50 [] Tryz.func87 rfl rfl rfl (vs := [.agg #[.int .i64 (ty : Nat), er, .int .i64 (l0 : Nat), .int .i64 (h0 : Nat), .slice (some A) 1 cap, .int .u8 (fb : Nat), st], .slice (some ⟨b, o, none⟩) s.length c]) (Has.nil _) ?_
  conv => arg 2; arg 2; whnf
  repeat' (first | (show PJ _ (Code.wp _ _ _) _ _; first | refine cseq ?_ | refine rtext ?_ | refine ctrue rfl ?_ | refine cfalse rfl ?_ | refine cskip ?_ | refine cret ?_ | refine rquiet mixed (by kernel_rfl) ?_) | refine tret ?_ | refine jnil ?_ | (first | refine jmv rfl rfl rfl ?_ | (show Jo _ (.fieldAddr _ _ _); refine jy (yfield rfl (by first | exact fb88_0' | exact fb88_4' | exact fb126_1') rfl) rfl rfl ?_) | (show Jo _ (.load _ _); first | refine jy (yload (i := 0) rfl rfl rfl one3) rfl rfl ?_ | refine jy (yloadw rfl hA0 (fun h => h) one3) rfl rfl ?_ | refine jy (yloadw rfl hA1 (fun h => h) one3) rfl rfl ?_) | refine jas_ rfl rfl rfl ?_ | (show Jo _ (.binOp _ _ _ _ _); (refine jy (yeql rfl rfl (by first | exact decide_eq_true (by omega) | exact decide_eq_false (by omega))) rfl rfl ?_)) | (show Jo _ (.call _); ((show Jo _ (.call ⟨.builtin .len, _, _⟩); refine jy (ylenl rfl und86') rfl rfl ?_))) | (show Jo _ (.box _ _); refine jbox rfl rfl rfl (fun gb hT => ?_)) | (show Jo _ (.slice 62 _ (some _) (some _) none); refine jy (yslLH (n := lo) (n' := hi) (kk := hi - lo) rfl rfl rfl und59 sz5 rfl rfl hlo (by omega) rfl rfl rfl) rfl rfl ?_) | (show Jo _ (.indexAddr 76 _ _); refine jy (yat (p' := A.add 0) rfl rfl und86' sz126' (by omega) (by omega) rfl) rfl rfl ?_) | (show Jo _ (.fieldAddr 104 _ 0); refine jy (yfieldA (p' := A.add 0) rfl fb126_0' (by rw [add_add])) rfl rfl ?_) | (show Jo _ (.fieldAddr 104 _ 1); refine jy (yfieldA (p' := A.add 1) rfl fb126_1' (by rw [add_add])) rfl rfl ?_)))
  exact ret1 rfl rfl rfl (fun w' hw' => ⟨_, rfl, (hB.sub lo (hi - lo) (by omega)).below (hw'.2.below (fun k _ h => h) (Nat.le_refl _)) (Nat.le_refl _), hw'.2.below (fun k _ h => h) (Nat.le_refl _)⟩)
end Go.Proofs.YtkehggbmpdacpabGreatDoor.Pg
