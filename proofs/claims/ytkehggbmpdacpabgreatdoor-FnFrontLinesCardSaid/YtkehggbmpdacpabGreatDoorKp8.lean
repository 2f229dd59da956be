/- The page laws: texts that all of them use, joined (part 8): Pg24, Pg25. -/
import Derived.Lib.BytesSpace
import Derived.Test.YtkehggbmpdacpabGreatDoorKp7
set_option maxRecDepth 100000
set_option linter.unusedVariables false
set_option linter.unusedSimpArgs false
set_option linter.unusedSectionVars false
namespace Go.Proofs.YtkehggbmpdacpabGreatDoor.Pg
open Go.Rx hiding bt
open Go.RowKit Go.Proofs.YtkehggbmpdacpabGreatDoor.Dec0 Go.Proofs.YtkehggbmpdacpabGreatDoor.Lex0
theorem bo159 : bodyB Tryz.prog 137 = true := by kernel_rfl
theorem co21 : Tryz.prog.concrete 21 = true := by kernel_rfl
theorem isSp_rn {l : T} (hl : l ≠ []) : isSp (rn l).toNat = isSpI (rn l) := by
  have h := rn_ge hl
  obtain ⟨k, hk⟩ : ∃ k : Nat, rn l = (k : Int) := ⟨(rn l).toNat, by omega⟩
  rw [hk]
  unfold isSp isSpI
  have e : ∀ j : Nat, (((k : Int) == (j : Int)) : Bool) = (k == j) := fun j => by
    by_cases hj : k = j
    · subst hj; simp
    · rw [show (k == j) = false from by simpa using hj, beq_eq_false_iff_ne]
      omega
  rw [show ((k : Int) == 9) = (k == 9) from e 9, show ((k : Int) == 10) = (k == 10) from e 10, show ((k : Int) == 11) = (k == 11) from e 11, show ((k : Int) == 12) = (k == 12) from e 12, show ((k : Int) == 13) = (k == 13) from e 13, show ((k : Int) == 32) = (k == 32) from e 32]
  rfl
set_option maxHeartbeats 2000000 in
theorem inside_calls {X : Cx} {H : Hd} {F G : Mem} (hX : Ok X H) (hl32 : H.s.length ≤ 4294967296) {x : Lx} {q : RS} (hS : StOk X H x q G) (hf : x.items.length < 999999999000) (hcl : x.closing < 4611686018427387904) (tr : T → T) (st : Value) (W gd : Nat) : ∀ w, Cl X (cM H x st W gd q F G) w → Calls Tryz.prog 137 #[pL H] w (SR X H st gd F (inside (envU tr) H.s x)) := by
  intro w hw
  refine enterC 122 hw Tryz.func137 rfl rfl (vs := [pL H]) rfl ?_
  replace hX := hX.sub hw 122
  replace hS := hS.sub 122 w
  have hs0 := hS.s
  have hwl := wd_rest hS.p
  have hSn : StOk (X.sub 122 w) H (mv (wd (H.s.drop x.pos)) x) q G := hS.mv rfl hwl (Nat.le_trans hs0 (Nat.le_add_right _ _))
  generalize hr : inside (envU tr) H.s x = r
  conv => arg 2; arg 2; whnf
  cases hP : (rd x.md).isPrefixOf (H.s.drop x.pos)
  · have hal : ∀ r, (envU tr).al r = alU r := fun _ => rfl
    have halh : ∀ r, alh (envU tr) r = (alU r || r == 45) := fun _ => rfl
    unfold inside at hr
    dsimp only at hr
    rw [hP, if_neg (by simp)] at hr
    rcases Decidable.em (rn (H.s.drop x.pos) = -1) with hn1 | hn1
    · have hnil := rn_neg.1 hn1
      have hw0 : (wd (H.s.drop x.pos)) = 0 := by rw [hnil]; rfl
      rw [if_pos hnil] at hr
      have e1 : r = (errI (mv (wd (H.s.drop x.pos)) x), none) := by rw [← hr, hw0]; rfl
      rw [e1]
      repeat' (first | refine cseq ?_ | refine rtext ?_ | refine ctrue rfl ?_ | refine cfalse rfl ?_ | refine cskip ?_ | refine cblk ?_ | refine cret ?_ | refine tret ?_ | refine bret ?_ | refine jnil ?_ | (first | refine jmv rfl rfl rfl ?_ | refine jas_ rfl rfl rfl ?_ | (show Jo _ (.binOp _ _ _ _ _); refine jy (yeql rfl rfl (by (exact decide_eq_true (by omega)))) rfl rfl ?_) | (show Jo _ (.call _); first | (show Jo (some 7) (.call _); refine jcall (ι := Nat) (v := fun g => fV g (rd x.md)) (m' := fun g => fB g (rd x.md) :: cM H x st W gd q F G) (fun _ => True) bo168 rfl rfl rfl (fun w' hw' => (cur168 (E := iB H :: qB q :: eM H x gd F G) (lsOf x st W (fV gd (divr x.org)) q.val) x.md rfl w' hw').mono fun e w'' ⟨g, h1, h2, _⟩ => ⟨g, h1, h2, trivial⟩) (fun g _ => ?_)) | (show Jo (some 8) (.call _); refine jcall0 (v := .bool ((rd x.md).isPrefixOf (H.s.drop x.pos))) (cM H x st W gd q F G) bo115 rfl rfl rfl (hasP_st hX (lsOf x st W (fV gd (divr x.org)) q.val) hS.p g (rd x.md)) ?_; rw [hP]) | (show Jo (some 10) (.call _); refine jcall0 (v := .int .i32 (rn (H.s.drop x.pos))) (cM H (mv (wd (H.s.drop x.pos)) x) st (wd (H.s.drop x.pos)) gd q F G) bo93 rfl rfl rfl (next_st hX x st W _ _ hS.p) ?_) | (show Jo (some 20) (.call _); refine jcall (ι := RS) (v := fun _ => .nilFunc) (m' := fun q' => cM H (errI (mv (wd (H.s.drop x.pos)) x)) st (wd (H.s.drop x.pos)) gd q' F G) (fun q' => StOk _ H (errI (mv (wd (H.s.drop x.pos)) x)) q' G) bo112 rfl rfl rfl (err_st hX hSn st _ _ (by dsimp only [mv]; omega) _ _) (fun q1 hS1 => ?_)))))
      exact ret1 rfl rfl rfl (fun w' hw' => ⟨q1, _, G, rfl, hw.up hw', StOk.up hw hS1⟩)
    have hne : H.s.drop x.pos ≠ [] := fun h => hn1 (rn_neg.2 h)
    have hge := rn_ge hne
    rw [if_neg hne, isSp_rn hne] at hr
    cases hB : isSpI (rn (H.s.drop x.pos))
    · rw [hB, if_neg (by simp)] at hr
      rcases Decidable.em (rn (H.s.drop x.pos) = 61) with h61 | h61
      · have hw1 : (wd (H.s.drop x.pos)) = 1 := wd_rn (k := 61) (by decide) h61
        rw [if_pos h61] at hr
        have hle := spN_le (H.s.drop (x.pos + (wd (H.s.drop x.pos))))
        rw [List.length_drop] at hle
        have hps : (x.pos + (wd (H.s.drop x.pos)) + spN (H.s.drop (x.pos + (wd (H.s.drop x.pos))))) ≤ H.s.length := by omega
        have hSs : StOk (X.sub 122 w) H (ign (mv (spN (H.s.drop (x.pos + (wd (H.s.drop x.pos))))) (mv (wd (H.s.drop x.pos)) x))) q G := hS.mv rfl hps (Nat.le_refl _)
        have hyy : ign (mv (1 + spN ((H.s.drop x.pos).drop 1)) x) = (ign (mv (spN (H.s.drop (x.pos + (wd (H.s.drop x.pos))))) (mv (wd (H.s.drop x.pos)) x))) := by
          rw [List.drop_drop, ← hw1]
          unfold ign mv
          dsimp only
          rw [show x.pos + ((wd (H.s.drop x.pos)) + spN (H.s.drop (x.pos + (wd (H.s.drop x.pos))))) = (x.pos + (wd (H.s.drop x.pos)) + spN (H.s.drop (x.pos + (wd (H.s.drop x.pos))))) by omega]
        rw [hyy] at hr
        have hypos : ((ign (mv (spN (H.s.drop (x.pos + (wd (H.s.drop x.pos))))) (mv (wd (H.s.drop x.pos)) x)))).pos = (x.pos + (wd (H.s.drop x.pos)) + spN (H.s.drop (x.pos + (wd (H.s.drop x.pos))))) := rfl
        rw [hypos] at hr
        rcases Decidable.em (rn (H.s.drop (x.pos + (wd (H.s.drop x.pos)) + spN (H.s.drop (x.pos + (wd (H.s.drop x.pos)))))) = 34) with h34 | h34
        · rw [if_pos (.inl h34)] at hr
          obtain ⟨qa, hqe⟩ : ∃ qa, qa = (rn (H.s.drop (x.pos + (wd (H.s.drop x.pos)) + spN (H.s.drop (x.pos + (wd (H.s.drop x.pos)))))) != 92) := ⟨_, rfl⟩
          have hqa : decide (rn (H.s.drop (x.pos + (wd (H.s.drop x.pos)) + spN (H.s.drop (x.pos + (wd (H.s.drop x.pos)))))) ≠ 92) = qa := by rw [hqe, h34]; decide
          rw [← hqe] at hr
          rw [← hr]
          repeat' (first | refine cseq ?_ | refine rtext ?_ | refine ctrue rfl ?_ | refine cfalse rfl ?_ | refine cskip ?_ | refine cblk ?_ | refine cret ?_ | refine tret ?_ | refine bret ?_ | refine jnil ?_ | (first | refine js rfl rfl ?_ | refine jmv rfl rfl rfl ?_ | refine jas_ rfl rfl rfl ?_ | (show Jo _ (.binOp _ _ _ _ _); first | (show Jo (some 43) _; refine jy (yneq (c := qa) rfl rfl hqa) rfl rfl ?_) | refine jy (yeql rfl rfl (by first | exact decide_eq_true (by omega) | exact decide_eq_false (by omega))) rfl rfl ?_) | (show Jo _ (.pick _ _ _); refine jy (ypick1 rfl rfl) rfl rfl ?_) | (show Jo _ (.call _); first | (show Jo (some 7) (.call _); refine jcall (ι := Nat) (v := fun g => fV g (rd x.md)) (m' := fun g => fB g (rd x.md) :: cM H x st W gd q F G) (fun _ => True) bo168 rfl rfl rfl (fun w' hw' => (cur168 (E := iB H :: qB q :: eM H x gd F G) (lsOf x st W (fV gd (divr x.org)) q.val) x.md rfl w' hw').mono fun e w'' ⟨g, h1, h2, _⟩ => ⟨g, h1, h2, trivial⟩) (fun g _ => ?_)) | (show Jo (some 8) (.call _); refine jcall0 (v := .bool ((rd x.md).isPrefixOf (H.s.drop x.pos))) (cM H x st W gd q F G) bo115 rfl rfl rfl (hasP_st hX (lsOf x st W (fV gd (divr x.org)) q.val) hS.p g (rd x.md)) ?_; rw [hP]) | (show Jo (some 10) (.call _); refine jcall0 (v := .int .i32 (rn (H.s.drop x.pos))) (cM H (mv (wd (H.s.drop x.pos)) x) st (wd (H.s.drop x.pos)) gd q F G) bo93 rfl rfl rfl (next_st hX x st W _ _ hS.p) ?_) | (show Jo (some 23) (.call _); refine jcallq bo99 rfl rfl rfl (quietC fun w' hw' => (space_calls _).mono fun e w'' h => ⟨h.1.trans (congrArg (fun b => Ending.returned (Value.bool b)) hB), h.2⟩) ?_) | (show Jo (some 30) (.call _); refine jcall (ι := Nat) (v := fun _ => .tuple #[]) (m' := fun V => cM H (mv (spN (H.s.drop (x.pos + (wd (H.s.drop x.pos))))) (mv (wd (H.s.drop x.pos)) x)) st V gd q F G) (fun _ => True) bo144 rfl rfl rfl (space_st hX (mv (wd (H.s.drop x.pos)) x) st _ _ _ hwl) (fun V _ => ?_)) | (show Jo (some 32) (.call _); refine jcall0 (v := .tuple #[]) (cM H (ign (mv (spN (H.s.drop (x.pos + (wd (H.s.drop x.pos))))) (mv (wd (H.s.drop x.pos)) x))) st V gd q F G) bo114 rfl rfl rfl (ign_st hX (mv (spN (H.s.drop (x.pos + (wd (H.s.drop x.pos))))) (mv (wd (H.s.drop x.pos)) x)) st _ _ _) ?_) | (show Jo (some 34) (.call _); refine jcall0 (v := .int .i32 (rn (H.s.drop (x.pos + (wd (H.s.drop x.pos)) + spN (H.s.drop (x.pos + (wd (H.s.drop x.pos)))))))) (cM H (ign (mv (spN (H.s.drop (x.pos + (wd (H.s.drop x.pos))))) (mv (wd (H.s.drop x.pos)) x))) st (wd (H.s.drop (x.pos + (wd (H.s.drop x.pos)) + spN (H.s.drop (x.pos + (wd (H.s.drop x.pos))))))) gd q F G) bo170 rfl rfl rfl (peek_st hX (ign (mv (spN (H.s.drop (x.pos + (wd (H.s.drop x.pos))))) (mv (wd (H.s.drop x.pos)) x))) st V _ _ hps) ?_) | (show Jo (some 44) (.call _); refine jcall (ι := RS × Nat × Mem) (vs := [pL H, .bool qa, .int .i64 (16 : Nat)]) (v := fun _ => stV (Lex0.quoted H.s qa 16 (ign (mv (spN (H.s.drop (x.pos + (wd (H.s.drop x.pos))))) (mv (wd (H.s.drop x.pos)) x)))).2) (m' := fun u => cM H (Lex0.quoted H.s qa 16 (ign (mv (spN (H.s.drop (x.pos + (wd (H.s.drop x.pos))))) (mv (wd (H.s.drop x.pos)) x)))).1 st u.2.1 gd u.1 F u.2.2) (fun u => StOk _ H (Lex0.quoted H.s qa 16 (ign (mv (spN (H.s.drop (x.pos + (wd (H.s.drop x.pos))))) (mv (wd (H.s.drop x.pos)) x)))).1 u.1 u.2.2) bo171 rfl rfl rfl (fun w' hw' => (quoted_calls hX hl32 hSs hf st _ gd qa 16 w' hw').mono fun e w'' ⟨q', W', G', h1, h2, h3⟩ => ⟨(q', W', G'), h1, h2, h3⟩) (fun u hSu => ?_)))))
          exact ret1 rfl rfl rfl (fun w' hw' => ⟨u.1, u.2.1, u.2.2, rfl, hw.up hw', StOk.up hw hSu⟩)
        rcases Decidable.em (rn (H.s.drop (x.pos + (wd (H.s.drop x.pos)) + spN (H.s.drop (x.pos + (wd (H.s.drop x.pos)))))) = 92) with h92 | h92
        · rw [if_pos (.inr h92)] at hr
          obtain ⟨qa, hqe⟩ : ∃ qa, qa = (rn (H.s.drop (x.pos + (wd (H.s.drop x.pos)) + spN (H.s.drop (x.pos + (wd (H.s.drop x.pos)))))) != 92) := ⟨_, rfl⟩
          have hqa : decide (rn (H.s.drop (x.pos + (wd (H.s.drop x.pos)) + spN (H.s.drop (x.pos + (wd (H.s.drop x.pos)))))) ≠ 92) = qa := by rw [hqe, h92]; decide
          rw [← hqe] at hr
          rw [← hr]
          repeat' (first | refine cseq ?_ | refine rtext ?_ | refine ctrue rfl ?_ | refine cfalse rfl ?_ | refine cskip ?_ | refine cblk ?_ | refine cret ?_ | refine tret ?_ | refine bret ?_ | refine jnil ?_ | (first | refine jmv rfl rfl rfl ?_ | refine jas_ rfl rfl rfl ?_ | (show Jo _ (.binOp _ _ _ _ _); first | (show Jo (some 43) _; refine jy (yneq (c := qa) rfl rfl hqa) rfl rfl ?_) | refine jy (yeql rfl rfl (by first | exact decide_eq_true (by omega) | exact decide_eq_false (by omega))) rfl rfl ?_) | (show Jo _ (.pick _ _ _); refine jy (ypick0 rfl rfl) rfl rfl ?_) | (show Jo _ (.call _); first | (show Jo (some 7) (.call _); refine jcall (ι := Nat) (v := fun g => fV g (rd x.md)) (m' := fun g => fB g (rd x.md) :: cM H x st W gd q F G) (fun _ => True) bo168 rfl rfl rfl (fun w' hw' => (cur168 (E := iB H :: qB q :: eM H x gd F G) (lsOf x st W (fV gd (divr x.org)) q.val) x.md rfl w' hw').mono fun e w'' ⟨g, h1, h2, _⟩ => ⟨g, h1, h2, trivial⟩) (fun g _ => ?_)) | (show Jo (some 8) (.call _); refine jcall0 (v := .bool ((rd x.md).isPrefixOf (H.s.drop x.pos))) (cM H x st W gd q F G) bo115 rfl rfl rfl (hasP_st hX (lsOf x st W (fV gd (divr x.org)) q.val) hS.p g (rd x.md)) ?_; rw [hP]) | (show Jo (some 10) (.call _); refine jcall0 (v := .int .i32 (rn (H.s.drop x.pos))) (cM H (mv (wd (H.s.drop x.pos)) x) st (wd (H.s.drop x.pos)) gd q F G) bo93 rfl rfl rfl (next_st hX x st W _ _ hS.p) ?_) | (show Jo (some 23) (.call _); refine jcallq bo99 rfl rfl rfl (quietC fun w' hw' => (space_calls _).mono fun e w'' h => ⟨h.1.trans (congrArg (fun b => Ending.returned (Value.bool b)) hB), h.2⟩) ?_) | (show Jo (some 30) (.call _); refine jcall (ι := Nat) (v := fun _ => .tuple #[]) (m' := fun V => cM H (mv (spN (H.s.drop (x.pos + (wd (H.s.drop x.pos))))) (mv (wd (H.s.drop x.pos)) x)) st V gd q F G) (fun _ => True) bo144 rfl rfl rfl (space_st hX (mv (wd (H.s.drop x.pos)) x) st _ _ _ hwl) (fun V _ => ?_)) | (show Jo (some 32) (.call _); refine jcall0 (v := .tuple #[]) (cM H (ign (mv (spN (H.s.drop (x.pos + (wd (H.s.drop x.pos))))) (mv (wd (H.s.drop x.pos)) x))) st V gd q F G) bo114 rfl rfl rfl (ign_st hX (mv (spN (H.s.drop (x.pos + (wd (H.s.drop x.pos))))) (mv (wd (H.s.drop x.pos)) x)) st _ _ _) ?_) | (show Jo (some 34) (.call _); refine jcall0 (v := .int .i32 (rn (H.s.drop (x.pos + (wd (H.s.drop x.pos)) + spN (H.s.drop (x.pos + (wd (H.s.drop x.pos)))))))) (cM H (ign (mv (spN (H.s.drop (x.pos + (wd (H.s.drop x.pos))))) (mv (wd (H.s.drop x.pos)) x))) st (wd (H.s.drop (x.pos + (wd (H.s.drop x.pos)) + spN (H.s.drop (x.pos + (wd (H.s.drop x.pos))))))) gd q F G) bo170 rfl rfl rfl (peek_st hX (ign (mv (spN (H.s.drop (x.pos + (wd (H.s.drop x.pos))))) (mv (wd (H.s.drop x.pos)) x))) st V _ _ hps) ?_) | (show Jo (some 44) (.call _); refine jcall (ι := RS × Nat × Mem) (vs := [pL H, .bool qa, .int .i64 (16 : Nat)]) (v := fun _ => stV (Lex0.quoted H.s qa 16 (ign (mv (spN (H.s.drop (x.pos + (wd (H.s.drop x.pos))))) (mv (wd (H.s.drop x.pos)) x)))).2) (m' := fun u => cM H (Lex0.quoted H.s qa 16 (ign (mv (spN (H.s.drop (x.pos + (wd (H.s.drop x.pos))))) (mv (wd (H.s.drop x.pos)) x)))).1 st u.2.1 gd u.1 F u.2.2) (fun u => StOk _ H (Lex0.quoted H.s qa 16 (ign (mv (spN (H.s.drop (x.pos + (wd (H.s.drop x.pos))))) (mv (wd (H.s.drop x.pos)) x)))).1 u.1 u.2.2) bo171 rfl rfl rfl (fun w' hw' => (quoted_calls hX hl32 hSs hf st _ gd qa 16 w' hw').mono fun e w'' ⟨q', W', G', h1, h2, h3⟩ => ⟨(q', W', G'), h1, h2, h3⟩) (fun u hSu => ?_)))))
          exact ret1 rfl rfl rfl (fun w' hw' => ⟨u.1, u.2.1, u.2.2, rfl, hw.up hw', StOk.up hw hSu⟩)
        rw [if_neg (fun h => h.elim h34 h92)] at hr
        have hqa : True := trivial
        rcases Decidable.em (rn (H.s.drop (x.pos + (wd (H.s.drop x.pos)) + spN (H.s.drop (x.pos + (wd (H.s.drop x.pos)))))) = 96) with h96 | h96
        · rw [if_pos h96] at hr
          rw [← hr]
          repeat' (first | refine cseq ?_ | refine rtext ?_ | refine ctrue rfl ?_ | refine cfalse rfl ?_ | refine cskip ?_ | refine cblk ?_ | refine cret ?_ | refine tret ?_ | refine bret ?_ | refine jnil ?_ | (first | refine jmv rfl rfl rfl ?_ | refine jas_ rfl rfl rfl ?_ | (show Jo _ (.binOp _ _ _ _ _); (refine jy (yeql rfl rfl (by first | exact decide_eq_true (by omega) | exact decide_eq_false (by omega))) rfl rfl ?_)) | (show Jo _ (.pick _ _ _); refine jy (ypick0 rfl rfl) rfl rfl ?_) | (show Jo _ (.call _); first | (show Jo (some 7) (.call _); refine jcall (ι := Nat) (v := fun g => fV g (rd x.md)) (m' := fun g => fB g (rd x.md) :: cM H x st W gd q F G) (fun _ => True) bo168 rfl rfl rfl (fun w' hw' => (cur168 (E := iB H :: qB q :: eM H x gd F G) (lsOf x st W (fV gd (divr x.org)) q.val) x.md rfl w' hw').mono fun e w'' ⟨g, h1, h2, _⟩ => ⟨g, h1, h2, trivial⟩) (fun g _ => ?_)) | (show Jo (some 8) (.call _); refine jcall0 (v := .bool ((rd x.md).isPrefixOf (H.s.drop x.pos))) (cM H x st W gd q F G) bo115 rfl rfl rfl (hasP_st hX (lsOf x st W (fV gd (divr x.org)) q.val) hS.p g (rd x.md)) ?_; rw [hP]) | (show Jo (some 10) (.call _); refine jcall0 (v := .int .i32 (rn (H.s.drop x.pos))) (cM H (mv (wd (H.s.drop x.pos)) x) st (wd (H.s.drop x.pos)) gd q F G) bo93 rfl rfl rfl (next_st hX x st W _ _ hS.p) ?_) | (show Jo (some 23) (.call _); refine jcallq bo99 rfl rfl rfl (quietC fun w' hw' => (space_calls _).mono fun e w'' h => ⟨h.1.trans (congrArg (fun b => Ending.returned (Value.bool b)) hB), h.2⟩) ?_) | (show Jo (some 30) (.call _); refine jcall (ι := Nat) (v := fun _ => .tuple #[]) (m' := fun V => cM H (mv (spN (H.s.drop (x.pos + (wd (H.s.drop x.pos))))) (mv (wd (H.s.drop x.pos)) x)) st V gd q F G) (fun _ => True) bo144 rfl rfl rfl (space_st hX (mv (wd (H.s.drop x.pos)) x) st _ _ _ hwl) (fun V _ => ?_)) | (show Jo (some 32) (.call _); refine jcall0 (v := .tuple #[]) (cM H (ign (mv (spN (H.s.drop (x.pos + (wd (H.s.drop x.pos))))) (mv (wd (H.s.drop x.pos)) x))) st V gd q F G) bo114 rfl rfl rfl (ign_st hX (mv (spN (H.s.drop (x.pos + (wd (H.s.drop x.pos))))) (mv (wd (H.s.drop x.pos)) x)) st _ _ _) ?_) | (show Jo (some 34) (.call _); refine jcall0 (v := .int .i32 (rn (H.s.drop (x.pos + (wd (H.s.drop x.pos)) + spN (H.s.drop (x.pos + (wd (H.s.drop x.pos)))))))) (cM H (ign (mv (spN (H.s.drop (x.pos + (wd (H.s.drop x.pos))))) (mv (wd (H.s.drop x.pos)) x))) st (wd (H.s.drop (x.pos + (wd (H.s.drop x.pos)) + spN (H.s.drop (x.pos + (wd (H.s.drop x.pos))))))) gd q F G) bo170 rfl rfl rfl (peek_st hX (ign (mv (spN (H.s.drop (x.pos + (wd (H.s.drop x.pos))))) (mv (wd (H.s.drop x.pos)) x))) st V _ _ hps) ?_) | (show Jo (some 48) (.call _); refine jcall (ι := RS × Nat × Mem) (vs := [pL H, .int .i64 (16 : Nat)]) (v := fun _ => stV (raw H.s 16 (ign (mv (spN (H.s.drop (x.pos + (wd (H.s.drop x.pos))))) (mv (wd (H.s.drop x.pos)) x)))).2) (m' := fun u => cM H (raw H.s 16 (ign (mv (spN (H.s.drop (x.pos + (wd (H.s.drop x.pos))))) (mv (wd (H.s.drop x.pos)) x)))).1 st u.2.1 gd u.1 F u.2.2) (fun u => StOk _ H (raw H.s 16 (ign (mv (spN (H.s.drop (x.pos + (wd (H.s.drop x.pos))))) (mv (wd (H.s.drop x.pos)) x)))).1 u.1 u.2.2) bo172 rfl rfl rfl (fun w' hw' => (raw_calls hX hSs hf st _ gd 16 w' hw').mono fun e w'' ⟨q', W', G', h1, h2, h3⟩ => ⟨(q', W', G'), h1, h2, h3⟩) (fun u hSu => ?_)))))
          exact ret1 rfl rfl rfl (fun w' hw' => ⟨u.1, u.2.1, u.2.2, rfl, hw.up hw', StOk.up hw hSu⟩)
        · rw [if_neg h96] at hr
          rw [← hr]
          repeat' (first | refine cseq ?_ | refine rtext ?_ | refine ctrue rfl ?_ | refine cfalse rfl ?_ | refine cskip ?_ | refine cblk ?_ | refine cret ?_ | refine tret ?_ | refine bret ?_ | refine jnil ?_ | (first | refine jmv rfl rfl rfl ?_ | refine jas_ rfl rfl rfl ?_ | (show Jo _ (.binOp _ _ _ _ _); (refine jy (yeql rfl rfl (by first | exact decide_eq_true (by omega) | exact decide_eq_false (by omega))) rfl rfl ?_)) | (show Jo _ (.pick _ _ _); refine jy (ypick0 rfl rfl) rfl rfl ?_) | (show Jo _ (.call _); first | (show Jo (some 7) (.call _); refine jcall (ι := Nat) (v := fun g => fV g (rd x.md)) (m' := fun g => fB g (rd x.md) :: cM H x st W gd q F G) (fun _ => True) bo168 rfl rfl rfl (fun w' hw' => (cur168 (E := iB H :: qB q :: eM H x gd F G) (lsOf x st W (fV gd (divr x.org)) q.val) x.md rfl w' hw').mono fun e w'' ⟨g, h1, h2, _⟩ => ⟨g, h1, h2, trivial⟩) (fun g _ => ?_)) | (show Jo (some 8) (.call _); refine jcall0 (v := .bool ((rd x.md).isPrefixOf (H.s.drop x.pos))) (cM H x st W gd q F G) bo115 rfl rfl rfl (hasP_st hX (lsOf x st W (fV gd (divr x.org)) q.val) hS.p g (rd x.md)) ?_; rw [hP]) | (show Jo (some 10) (.call _); refine jcall0 (v := .int .i32 (rn (H.s.drop x.pos))) (cM H (mv (wd (H.s.drop x.pos)) x) st (wd (H.s.drop x.pos)) gd q F G) bo93 rfl rfl rfl (next_st hX x st W _ _ hS.p) ?_) | (show Jo (some 23) (.call _); refine jcallq bo99 rfl rfl rfl (quietC fun w' hw' => (space_calls _).mono fun e w'' h => ⟨h.1.trans (congrArg (fun b => Ending.returned (Value.bool b)) hB), h.2⟩) ?_) | (show Jo (some 30) (.call _); refine jcall (ι := Nat) (v := fun _ => .tuple #[]) (m' := fun V => cM H (mv (spN (H.s.drop (x.pos + (wd (H.s.drop x.pos))))) (mv (wd (H.s.drop x.pos)) x)) st V gd q F G) (fun _ => True) bo144 rfl rfl rfl (space_st hX (mv (wd (H.s.drop x.pos)) x) st _ _ _ hwl) (fun V _ => ?_)) | (show Jo (some 32) (.call _); refine jcall0 (v := .tuple #[]) (cM H (ign (mv (spN (H.s.drop (x.pos + (wd (H.s.drop x.pos))))) (mv (wd (H.s.drop x.pos)) x))) st V gd q F G) bo114 rfl rfl rfl (ign_st hX (mv (spN (H.s.drop (x.pos + (wd (H.s.drop x.pos))))) (mv (wd (H.s.drop x.pos)) x)) st _ _ _) ?_) | (show Jo (some 34) (.call _); refine jcall0 (v := .int .i32 (rn (H.s.drop (x.pos + (wd (H.s.drop x.pos)) + spN (H.s.drop (x.pos + (wd (H.s.drop x.pos)))))))) (cM H (ign (mv (spN (H.s.drop (x.pos + (wd (H.s.drop x.pos))))) (mv (wd (H.s.drop x.pos)) x))) st (wd (H.s.drop (x.pos + (wd (H.s.drop x.pos)) + spN (H.s.drop (x.pos + (wd (H.s.drop x.pos))))))) gd q F G) bo170 rfl rfl rfl (peek_st hX (ign (mv (spN (H.s.drop (x.pos + (wd (H.s.drop x.pos))))) (mv (wd (H.s.drop x.pos)) x))) st V _ _ hps) ?_))))
          exact ret1 rfl rfl rfl (fun w' hw' => ⟨q, _, G, rfl, hw.up hw', StOk.up hw hSs⟩)
      rw [if_neg h61] at hr
      rcases Decidable.em (rn (H.s.drop x.pos) = 47) with h47 | h47
      · have hw1 : (wd (H.s.drop x.pos)) = 1 := wd_rn (k := 47) (by decide) h47
        rw [if_pos h47] at hr
        by_cases hN : x.name = ⟨#[]⟩
        · have hNm : decide (x.name = ⟨#[]⟩) = true := decide_eq_true hN
          rw [if_pos hN, ← hw1] at hr
          rw [← hr]
          repeat' (first | refine cseq ?_ | refine rtext ?_ | refine ctrue rfl ?_ | refine cfalse rfl ?_ | refine cskip ?_ | refine cblk ?_ | refine cret ?_ | refine tret ?_ | refine bret ?_ | refine jnil ?_ | (first | refine jmv rfl rfl rfl ?_ | refine jy (ynil rfl) rfl rfl ?_ | (show Jo _ (.fieldAddr _ _ _); refine jy (yfield rfl (by first | exact fb110_3 | exact fb110_10) rfl) rfl rfl ?_) | (show Jo _ (.load _ _); refine jy (yload (i := 0) rfl rfl rfl one3) rfl rfl ?_) | refine jas_ rfl rfl rfl ?_ | (show Jo _ (.binOp _ _ _ _ _); first | (show Jo (some 57) _; refine jy (yseql rfl rfl hNm) rfl rfl ?_) | refine jy (yeql rfl rfl (by first | exact decide_eq_true (by omega) | exact decide_eq_false (by omega))) rfl rfl ?_) | (show Jo _ (.call _); first | (show Jo (some 7) (.call _); refine jcall (ι := Nat) (v := fun g => fV g (rd x.md)) (m' := fun g => fB g (rd x.md) :: cM H x st W gd q F G) (fun _ => True) bo168 rfl rfl rfl (fun w' hw' => (cur168 (E := iB H :: qB q :: eM H x gd F G) (lsOf x st W (fV gd (divr x.org)) q.val) x.md rfl w' hw').mono fun e w'' ⟨g, h1, h2, _⟩ => ⟨g, h1, h2, trivial⟩) (fun g _ => ?_)) | (show Jo (some 8) (.call _); refine jcall0 (v := .bool ((rd x.md).isPrefixOf (H.s.drop x.pos))) (cM H x st W gd q F G) bo115 rfl rfl rfl (hasP_st hX (lsOf x st W (fV gd (divr x.org)) q.val) hS.p g (rd x.md)) ?_; rw [hP]) | (show Jo (some 10) (.call _); refine jcall0 (v := .int .i32 (rn (H.s.drop x.pos))) (cM H (mv (wd (H.s.drop x.pos)) x) st (wd (H.s.drop x.pos)) gd q F G) bo93 rfl rfl rfl (next_st hX x st W _ _ hS.p) ?_) | (show Jo (some 59) (.call _); refine jcall (ι := RS) (v := fun _ => .nilFunc) (m' := fun q' => cM H (errI (mv (wd (H.s.drop x.pos)) x)) st (wd (H.s.drop x.pos)) gd q' F G) (fun q' => StOk _ H (errI (mv (wd (H.s.drop x.pos)) x)) q' G) bo112 rfl rfl rfl (err_st hX hSn st _ _ (by dsimp only [mv]; omega) _ _) (fun q1 hS1 => ?_)) | (show Jo (some 23) (.call _); refine jcallq bo99 rfl rfl rfl (quietC fun w' hw' => (space_calls _).mono fun e w'' h => ⟨h.1.trans (congrArg (fun b => Ending.returned (Value.bool b)) hB), h.2⟩) ?_))))
          exact ret1 rfl rfl rfl (fun w' hw' => ⟨q1, _, G, rfl, hw.up hw', StOk.up hw hS1⟩)
        · have hNm : decide (x.name = ⟨#[]⟩) = false := decide_eq_false hN
          rw [if_neg hN, show mv 1 x = (mv (wd (H.s.drop x.pos)) x) from by rw [hw1], ← emitL_n H.s _ (by decide)] at hr
          rw [← hr]
          repeat' (first | refine cseq ?_ | refine rtext ?_ | refine ctrue rfl ?_ | refine cfalse rfl ?_ | refine cskip ?_ | refine cblk ?_ | refine cret ?_ | refine jnil ?_ | (first | refine jmv rfl rfl rfl ?_ | refine jy (ynil rfl) rfl rfl ?_ | (show Jo _ (.fieldAddr _ _ _); refine jy (yfield rfl (by first | exact fb110_3 | exact fb110_4 | exact fb110_10 | exact fb108_2 | exact fb108_5) rfl) rfl rfl ?_) | (show Jo _ (.load _ _); refine jy (yload (i := 0) rfl rfl rfl one3) rfl rfl ?_) | refine jas_ rfl rfl rfl ?_ | (show Jo _ (.binOp _ _ _ _ _); first | (show Jo (some 57) _; refine jy (yseql rfl rfl hNm) rfl rfl ?_) | (show Jo (some 65) _; refine jy (yadd (c := ((x.closing + 1 : Nat) : Int)) rfl rfl ((i64_in (by (try dsimp only [lsOf, mv, ign, emitL]); omega) (by (try dsimp only [lsOf, mv, ign, emitL]); omega)).trans (by (try dsimp only [lsOf, mv, ign, emitL]); omega))) rfl rfl ?_) | refine jy (yeql rfl rfl (by first | exact decide_eq_true (by omega) | exact decide_eq_false (by omega))) rfl rfl ?_) | (show Jo _ (.store _ _ _); refine jstore (i := 0) rfl rfl rfl rfl rfl si3 hX.mL ?_) | (show Jo _ (.call _); first | (show Jo (some 7) (.call _); refine jcall (ι := Nat) (v := fun g => fV g (rd x.md)) (m' := fun g => fB g (rd x.md) :: cM H x st W gd q F G) (fun _ => True) bo168 rfl rfl rfl (fun w' hw' => (cur168 (E := iB H :: qB q :: eM H x gd F G) (lsOf x st W (fV gd (divr x.org)) q.val) x.md rfl w' hw').mono fun e w'' ⟨g, h1, h2, _⟩ => ⟨g, h1, h2, trivial⟩) (fun g _ => ?_)) | (show Jo (some 8) (.call _); refine jcall0 (v := .bool ((rd x.md).isPrefixOf (H.s.drop x.pos))) (cM H x st W gd q F G) bo115 rfl rfl rfl (hasP_st hX (lsOf x st W (fV gd (divr x.org)) q.val) hS.p g (rd x.md)) ?_; rw [hP]) | (show Jo (some 10) (.call _); refine jcall0 (v := .int .i32 (rn (H.s.drop x.pos))) (cM H (mv (wd (H.s.drop x.pos)) x) st (wd (H.s.drop x.pos)) gd q F G) bo93 rfl rfl rfl (next_st hX x st W _ _ hS.p) ?_) | (show Jo (some 23) (.call _); refine jcallq bo99 rfl rfl rfl (quietC fun w' hw' => (space_calls _).mono fun e w'' h => ⟨h.1.trans (congrArg (fun b => Ending.returned (Value.bool b)) hB), h.2⟩) ?_) | (show Jo (some 78) (.call _); refine jcall (ι := RS) (vs := [pL H, .int .i64 (12 : Nat)]) (v := fun _ => .tuple #[]) (m' := fun q' => cM H (emitL H.s 12 ({ mv (wd (H.s.drop x.pos)) x with closing := x.closing + 1, inl := false, step := 0 } : Lx)) st (wd (H.s.drop x.pos)) gd q' F G) (fun q' => StOk _ H (emitL H.s 12 ({ mv (wd (H.s.drop x.pos)) x with closing := x.closing + 1, inl := false, step := 0 } : Lx)) q' G) bo116 rfl rfl rfl (emit_st hX (hSn.mv (y := ({ mv (wd (H.s.drop x.pos)) x with closing := x.closing + 1, inl := false, step := 0 } : Lx)) rfl hwl hSn.s) st _ (wd (H.s.drop x.pos)) (by dsimp only [mv]; omega) 12) (fun q1 hS1 => ?_)))))
          exact ret1 rfl rfl rfl (fun w' hw' => ⟨q1, _, G, rfl, hw.up hw', StOk.up hw hS1⟩)
      rw [if_neg h47] at hr
      rcases Decidable.em (rn (H.s.drop x.pos) = 92) with h92 | h92
      · have hw1 : (wd (H.s.drop x.pos)) = 1 := wd_rn (k := 92) (by decide) h92
        rw [if_pos h92, ← hw1] at hr
        have hypos : (ign (mv (wd (H.s.drop x.pos)) x)).pos = (x.pos + (wd (H.s.drop x.pos))) := rfl
        rw [hypos] at hr
        rcases Decidable.em (rn (H.s.drop (x.pos + (wd (H.s.drop x.pos)))) = 34 ∨ rn (H.s.drop (x.pos + (wd (H.s.drop x.pos)))) = 96) with hk | hk
        · rw [if_pos hk] at hr
          rw [← hr]
          rcases hk with hk | hk
          all_goals
            repeat' (first | refine cseq ?_ | refine rtext ?_ | refine ctrue rfl ?_ | refine cfalse rfl ?_ | refine cskip ?_ | refine cblk ?_ | refine cret ?_ | refine tret ?_ | refine bret ?_ | refine jnil ?_ | (first | refine js rfl rfl ?_ | refine jmv rfl rfl rfl ?_ | refine jas_ rfl rfl rfl ?_ | (show Jo _ (.binOp _ _ _ _ _); (refine jy (yeql rfl rfl (by first | exact decide_eq_true (by omega) | exact decide_eq_false (by omega))) rfl rfl ?_)) | (show Jo _ (.pick _ _ _); first | refine jy (ypick1 rfl rfl) rfl rfl ?_ | refine jy (ypick0 rfl rfl) rfl rfl ?_) | (show Jo _ (.call _); first | (show Jo (some 7) (.call _); refine jcall (ι := Nat) (v := fun g => fV g (rd x.md)) (m' := fun g => fB g (rd x.md) :: cM H x st W gd q F G) (fun _ => True) bo168 rfl rfl rfl (fun w' hw' => (cur168 (E := iB H :: qB q :: eM H x gd F G) (lsOf x st W (fV gd (divr x.org)) q.val) x.md rfl w' hw').mono fun e w'' ⟨g, h1, h2, _⟩ => ⟨g, h1, h2, trivial⟩) (fun g _ => ?_)) | (show Jo (some 8) (.call _); refine jcall0 (v := .bool ((rd x.md).isPrefixOf (H.s.drop x.pos))) (cM H x st W gd q F G) bo115 rfl rfl rfl (hasP_st hX (lsOf x st W (fV gd (divr x.org)) q.val) hS.p g (rd x.md)) ?_; rw [hP]) | (show Jo (some 10) (.call _); refine jcall0 (v := .int .i32 (rn (H.s.drop x.pos))) (cM H (mv (wd (H.s.drop x.pos)) x) st (wd (H.s.drop x.pos)) gd q F G) bo93 rfl rfl rfl (next_st hX x st W _ _ hS.p) ?_) | (show Jo (some 23) (.call _); refine jcallq bo99 rfl rfl rfl (quietC fun w' hw' => (space_calls _).mono fun e w'' h => ⟨h.1.trans (congrArg (fun b => Ending.returned (Value.bool b)) hB), h.2⟩) ?_) | (show Jo (some 83) (.call _); refine jcall0 (v := .tuple #[]) (cM H (ign (mv (wd (H.s.drop x.pos)) x)) st (wd (H.s.drop x.pos)) gd q F G) bo114 rfl rfl rfl (ign_st hX (mv (wd (H.s.drop x.pos)) x) st _ _ _) ?_) | (show Jo (some 85) (.call _); refine jcall0 (v := .int .i32 (rn (H.s.drop (x.pos + (wd (H.s.drop x.pos)))))) (cM H (ign (mv (wd (H.s.drop x.pos)) x)) st (wd (H.s.drop (x.pos + (wd (H.s.drop x.pos))))) gd q F G) bo170 rfl rfl rfl (peek_st hX (ign (mv (wd (H.s.drop x.pos)) x)) st _ _ _ hwl) ?_) | (show Jo (some 89) (.call _); refine jcall0 (v := .int .i32 (rn (H.s.drop (x.pos + (wd (H.s.drop x.pos)))))) (cM H (ign (mv (wd (H.s.drop x.pos)) x)) st (wd (H.s.drop (x.pos + (wd (H.s.drop x.pos))))) gd q F G) bo170 rfl rfl rfl (peek_st hX (ign (mv (wd (H.s.drop x.pos)) x)) st _ _ _ hwl) ?_) | (show Jo (some 93) (.call _); refine jcall (ι := RS × Nat × Mem) (vs := [pL H, .bool true]) (v := fun _ => stV (param (envU tr) H.s true (ign (mv (wd (H.s.drop x.pos)) x))).2) (m' := fun u => cM H (param (envU tr) H.s true (ign (mv (wd (H.s.drop x.pos)) x))).1 st u.2.1 gd u.1 F u.2.2) (fun u => StOk _ H (param (envU tr) H.s true (ign (mv (wd (H.s.drop x.pos)) x))).1 u.1 u.2.2) bo174 rfl rfl rfl (fun w' hw' => (param_calls hX hl32 (hSn.mv (y := ign (mv (wd (H.s.drop x.pos)) x)) rfl hwl (Nat.le_refl _)) hf tr st _ gd true w' hw').mono fun e w'' ⟨q', W', G', h1, h2, h3⟩ => ⟨(q', W', G'), h1, h2, h3⟩) (fun u hSu => ?_)))))
            exact ret1 rfl rfl rfl (fun w' hw' => ⟨u.1, u.2.1, u.2.2, rfl, hw.up hw', StOk.up hw hSu⟩)
        · rw [if_neg hk] at hr
          rw [← hr]
          have hk1 : rn (H.s.drop (x.pos + (wd (H.s.drop x.pos)))) ≠ 34 := fun h => hk (.inl h)
          have hk2 : rn (H.s.drop (x.pos + (wd (H.s.drop x.pos)))) ≠ 96 := fun h => hk (.inr h)
          repeat' (first | refine cseq ?_ | refine rtext ?_ | refine ctrue rfl ?_ | refine cfalse rfl ?_ | refine cskip ?_ | refine cblk ?_ | refine cret ?_ | refine jnil ?_ | (first | refine jmv rfl rfl rfl ?_ | refine jas_ rfl rfl rfl ?_ | (show Jo _ (.binOp _ _ _ _ _); (refine jy (yeql rfl rfl (by first | exact decide_eq_true (by omega) | exact decide_eq_false (by omega))) rfl rfl ?_)) | (show Jo _ (.pick _ _ _); refine jy (ypick0 rfl rfl) rfl rfl ?_) | (show Jo _ (.call _); first | (show Jo (some 7) (.call _); refine jcall (ι := Nat) (v := fun g => fV g (rd x.md)) (m' := fun g => fB g (rd x.md) :: cM H x st W gd q F G) (fun _ => True) bo168 rfl rfl rfl (fun w' hw' => (cur168 (E := iB H :: qB q :: eM H x gd F G) (lsOf x st W (fV gd (divr x.org)) q.val) x.md rfl w' hw').mono fun e w'' ⟨g, h1, h2, _⟩ => ⟨g, h1, h2, trivial⟩) (fun g _ => ?_)) | (show Jo (some 8) (.call _); refine jcall0 (v := .bool ((rd x.md).isPrefixOf (H.s.drop x.pos))) (cM H x st W gd q F G) bo115 rfl rfl rfl (hasP_st hX (lsOf x st W (fV gd (divr x.org)) q.val) hS.p g (rd x.md)) ?_; rw [hP]) | (show Jo (some 10) (.call _); refine jcall0 (v := .int .i32 (rn (H.s.drop x.pos))) (cM H (mv (wd (H.s.drop x.pos)) x) st (wd (H.s.drop x.pos)) gd q F G) bo93 rfl rfl rfl (next_st hX x st W _ _ hS.p) ?_) | (show Jo (some 23) (.call _); refine jcallq bo99 rfl rfl rfl (quietC fun w' hw' => (space_calls _).mono fun e w'' h => ⟨h.1.trans (congrArg (fun b => Ending.returned (Value.bool b)) hB), h.2⟩) ?_) | (show Jo (some 83) (.call _); refine jcall0 (v := .tuple #[]) (cM H (ign (mv (wd (H.s.drop x.pos)) x)) st (wd (H.s.drop x.pos)) gd q F G) bo114 rfl rfl rfl (ign_st hX (mv (wd (H.s.drop x.pos)) x) st _ _ _) ?_) | (show Jo (some 85) (.call _); refine jcall0 (v := .int .i32 (rn (H.s.drop (x.pos + (wd (H.s.drop x.pos)))))) (cM H (ign (mv (wd (H.s.drop x.pos)) x)) st (wd (H.s.drop (x.pos + (wd (H.s.drop x.pos))))) gd q F G) bo170 rfl rfl rfl (peek_st hX (ign (mv (wd (H.s.drop x.pos)) x)) st _ _ _ hwl) ?_) | (show Jo (some 89) (.call _); refine jcall0 (v := .int .i32 (rn (H.s.drop (x.pos + (wd (H.s.drop x.pos)))))) (cM H (ign (mv (wd (H.s.drop x.pos)) x)) st (wd (H.s.drop (x.pos + (wd (H.s.drop x.pos))))) gd q F G) bo170 rfl rfl rfl (peek_st hX (ign (mv (wd (H.s.drop x.pos)) x)) st _ _ _ hwl) ?_))))
          exact ret1 rfl rfl rfl (fun w' hw' => ⟨q, _, G, rfl, hw.up hw', (StOk.up hw hSn).mv rfl hwl (Nat.le_refl _)⟩)
      rw [if_neg h92, halh, hal] at hr
      by_cases hst : 0 < x.step
      · cases hA : (alU (rn (H.s.drop x.pos)) || rn (H.s.drop x.pos) == 45)
        · rcases Decidable.em (rn (H.s.drop x.pos) = 34) with h34 | h34
          · rw [if_pos ⟨hst, .inr (.inl h34)⟩] at hr
            rw [← hr]
            repeat' (first | refine cseq ?_ | refine rtext ?_ | refine ctrue rfl ?_ | refine cfalse rfl ?_ | refine cskip ?_ | refine cblk ?_ | refine cret ?_ | refine tret ?_ | refine bret ?_ | refine jnil ?_ | (first | refine js rfl rfl ?_ | refine jmv rfl rfl rfl ?_ | refine jy (ynil rfl) rfl rfl ?_ | (show Jo _ (.fieldAddr _ _ _); refine jy (yfield rfl (by first | exact fb110_10 | exact fb108_5) rfl) rfl rfl ?_) | (show Jo _ (.load _ _); refine jy (yload (i := 0) rfl rfl rfl one3) rfl rfl ?_) | refine jas_ rfl rfl rfl ?_ | (show Jo _ (.binOp _ _ _ _ _); first | (show Jo _ (.binOp .gtr _ _ _ _); refine jy (ygtr rfl rfl (by (exact decide_eq_true (by (try dsimp only [lsOf, mv, ign, emitL]); omega)))) rfl rfl ?_) | refine jy (yeql rfl rfl (by first | exact decide_eq_true (by omega) | exact decide_eq_false (by omega))) rfl rfl ?_) | (show Jo _ (.pick _ _ _); first | refine jy (ypick1 rfl rfl) rfl rfl ?_ | refine jy (ypick0 rfl rfl) rfl rfl ?_) | (show Jo _ (.call _); first | (show Jo (some 7) (.call _); refine jcall (ι := Nat) (v := fun g => fV g (rd x.md)) (m' := fun g => fB g (rd x.md) :: cM H x st W gd q F G) (fun _ => True) bo168 rfl rfl rfl (fun w' hw' => (cur168 (E := iB H :: qB q :: eM H x gd F G) (lsOf x st W (fV gd (divr x.org)) q.val) x.md rfl w' hw').mono fun e w'' ⟨g, h1, h2, _⟩ => ⟨g, h1, h2, trivial⟩) (fun g _ => ?_)) | (show Jo (some 8) (.call _); refine jcall0 (v := .bool ((rd x.md).isPrefixOf (H.s.drop x.pos))) (cM H x st W gd q F G) bo115 rfl rfl rfl (hasP_st hX (lsOf x st W (fV gd (divr x.org)) q.val) hS.p g (rd x.md)) ?_; rw [hP]) | (show Jo (some 10) (.call _); refine jcall0 (v := .int .i32 (rn (H.s.drop x.pos))) (cM H (mv (wd (H.s.drop x.pos)) x) st (wd (H.s.drop x.pos)) gd q F G) bo93 rfl rfl rfl (next_st hX x st W _ _ hS.p) ?_) | (show Jo (some 23) (.call _); refine jcallq bo99 rfl rfl rfl (quietC fun w' hw' => (space_calls _).mono fun e w'' h => ⟨h.1.trans (congrArg (fun b => Ending.returned (Value.bool b)) hB), h.2⟩) ?_) | (show Jo (some 103) (.call _); refine jcallq bo175 rfl rfl rfl (quietC fun w' hw' => (alh_calls (hX.tab hw') (rn_i32 _)).mono fun e w'' h => ⟨h.1.trans (congrArg (fun b => Ending.returned (Value.bool b)) hA), h.2⟩) ?_) | (show Jo (some 114) (.call _); refine jcall0 (v := .tuple #[]) (cM H x st (wd (H.s.drop x.pos)) gd q F G) bo117 rfl rfl rfl (back_st hX x st _ _ (wd (H.s.drop x.pos)) hwl) ?_) | (show Jo (some 116) (.call _); refine jcall (ι := RS × Nat × Mem) (vs := [pL H, .bool false]) (v := fun _ => stV (param (envU tr) H.s false x).2) (m' := fun u => cM H (param (envU tr) H.s false x).1 st u.2.1 gd u.1 F u.2.2) (fun u => StOk _ H (param (envU tr) H.s false x).1 u.1 u.2.2) bo174 rfl rfl rfl (fun w' hw' => (param_calls hX hl32 hS hf tr st _ gd false w' hw').mono fun e w'' ⟨q', W', G', h1, h2, h3⟩ => ⟨(q', W', G'), h1, h2, h3⟩) (fun u hSu => ?_)))))
            exact ret1 rfl rfl rfl (fun w' hw' => ⟨u.1, u.2.1, u.2.2, rfl, hw.up hw', StOk.up hw hSu⟩)
          rcases Decidable.em (rn (H.s.drop x.pos) = 96) with h96 | h96
          · rw [if_pos ⟨hst, .inr (.inr h96)⟩] at hr
            rw [← hr]
            repeat' (first | refine cseq ?_ | refine rtext ?_ | refine ctrue rfl ?_ | refine cfalse rfl ?_ | refine cskip ?_ | refine cblk ?_ | refine cret ?_ | refine tret ?_ | refine bret ?_ | refine jnil ?_ | (first | refine jmv rfl rfl rfl ?_ | refine jy (ynil rfl) rfl rfl ?_ | (show Jo _ (.fieldAddr _ _ _); refine jy (yfield rfl (by first | exact fb110_10 | exact fb108_5) rfl) rfl rfl ?_) | (show Jo _ (.load _ _); refine jy (yload (i := 0) rfl rfl rfl one3) rfl rfl ?_) | refine jas_ rfl rfl rfl ?_ | (show Jo _ (.binOp _ _ _ _ _); first | (show Jo _ (.binOp .gtr _ _ _ _); refine jy (ygtr rfl rfl (by (exact decide_eq_true (by (try dsimp only [lsOf, mv, ign, emitL]); omega)))) rfl rfl ?_) | refine jy (yeql rfl rfl (by first | exact decide_eq_true (by omega) | exact decide_eq_false (by omega))) rfl rfl ?_) | (show Jo _ (.pick _ _ _); first | refine jy (ypick1 rfl rfl) rfl rfl ?_ | refine jy (ypick0 rfl rfl) rfl rfl ?_) | (show Jo _ (.call _); first | (show Jo (some 7) (.call _); refine jcall (ι := Nat) (v := fun g => fV g (rd x.md)) (m' := fun g => fB g (rd x.md) :: cM H x st W gd q F G) (fun _ => True) bo168 rfl rfl rfl (fun w' hw' => (cur168 (E := iB H :: qB q :: eM H x gd F G) (lsOf x st W (fV gd (divr x.org)) q.val) x.md rfl w' hw').mono fun e w'' ⟨g, h1, h2, _⟩ => ⟨g, h1, h2, trivial⟩) (fun g _ => ?_)) | (show Jo (some 8) (.call _); refine jcall0 (v := .bool ((rd x.md).isPrefixOf (H.s.drop x.pos))) (cM H x st W gd q F G) bo115 rfl rfl rfl (hasP_st hX (lsOf x st W (fV gd (divr x.org)) q.val) hS.p g (rd x.md)) ?_; rw [hP]) | (show Jo (some 10) (.call _); refine jcall0 (v := .int .i32 (rn (H.s.drop x.pos))) (cM H (mv (wd (H.s.drop x.pos)) x) st (wd (H.s.drop x.pos)) gd q F G) bo93 rfl rfl rfl (next_st hX x st W _ _ hS.p) ?_) | (show Jo (some 23) (.call _); refine jcallq bo99 rfl rfl rfl (quietC fun w' hw' => (space_calls _).mono fun e w'' h => ⟨h.1.trans (congrArg (fun b => Ending.returned (Value.bool b)) hB), h.2⟩) ?_) | (show Jo (some 103) (.call _); refine jcallq bo175 rfl rfl rfl (quietC fun w' hw' => (alh_calls (hX.tab hw') (rn_i32 _)).mono fun e w'' h => ⟨h.1.trans (congrArg (fun b => Ending.returned (Value.bool b)) hA), h.2⟩) ?_) | (show Jo (some 114) (.call _); refine jcall0 (v := .tuple #[]) (cM H x st (wd (H.s.drop x.pos)) gd q F G) bo117 rfl rfl rfl (back_st hX x st _ _ (wd (H.s.drop x.pos)) hwl) ?_) | (show Jo (some 116) (.call _); refine jcall (ι := RS × Nat × Mem) (vs := [pL H, .bool false]) (v := fun _ => stV (param (envU tr) H.s false x).2) (m' := fun u => cM H (param (envU tr) H.s false x).1 st u.2.1 gd u.1 F u.2.2) (fun u => StOk _ H (param (envU tr) H.s false x).1 u.1 u.2.2) bo174 rfl rfl rfl (fun w' hw' => (param_calls hX hl32 hS hf tr st _ gd false w' hw').mono fun e w'' ⟨q', W', G', h1, h2, h3⟩ => ⟨(q', W', G'), h1, h2, h3⟩) (fun u hSu => ?_)))))
            exact ret1 rfl rfl rfl (fun w' hw' => ⟨u.1, u.2.1, u.2.2, rfl, hw.up hw', StOk.up hw hSu⟩)
          have hA2 : alU (rn (H.s.drop x.pos)) = false := by
            simp only [Bool.or_eq_false_iff] at hA
            exact hA.1
          rw [if_neg (by rw [hA]; rintro ⟨_, h | h | h⟩; cases h; exact h34 h; exact h96 h), hA2, if_neg (by simp)] at hr
          rw [← hr]
          repeat' (first | refine cseq ?_ | refine rtext ?_ | refine cfalse rfl ?_ | refine cskip ?_ | refine cblk ?_ | refine cret ?_ | refine tret ?_ | refine bret ?_ | refine jnil ?_ | (first | refine jmv rfl rfl rfl ?_ | refine jy (ynil rfl) rfl rfl ?_ | (show Jo _ (.fieldAddr _ _ _); refine jy (yfield rfl (by first | exact fb110_10 | exact fb108_5) rfl) rfl rfl ?_) | (show Jo _ (.load _ _); refine jy (yload (i := 0) rfl rfl rfl one3) rfl rfl ?_) | refine jas_ rfl rfl rfl ?_ | (show Jo _ (.binOp _ _ _ _ _); first | (show Jo _ (.binOp .gtr _ _ _ _); refine jy (ygtr rfl rfl (by (exact decide_eq_true (by (try dsimp only [lsOf, mv, ign, emitL]); omega)))) rfl rfl ?_) | refine jy (yeql rfl rfl (by (exact decide_eq_false (by omega)))) rfl rfl ?_) | (show Jo _ (.pick _ _ _); first | refine jy (ypick1 rfl rfl) rfl rfl ?_ | refine jy (ypick0 rfl rfl) rfl rfl ?_) | (show Jo _ (.call _); first | (show Jo (some 7) (.call _); refine jcall (ι := Nat) (v := fun g => fV g (rd x.md)) (m' := fun g => fB g (rd x.md) :: cM H x st W gd q F G) (fun _ => True) bo168 rfl rfl rfl (fun w' hw' => (cur168 (E := iB H :: qB q :: eM H x gd F G) (lsOf x st W (fV gd (divr x.org)) q.val) x.md rfl w' hw').mono fun e w'' ⟨g, h1, h2, _⟩ => ⟨g, h1, h2, trivial⟩) (fun g _ => ?_)) | (show Jo (some 8) (.call _); refine jcall0 (v := .bool ((rd x.md).isPrefixOf (H.s.drop x.pos))) (cM H x st W gd q F G) bo115 rfl rfl rfl (hasP_st hX (lsOf x st W (fV gd (divr x.org)) q.val) hS.p g (rd x.md)) ?_; rw [hP]) | (show Jo (some 10) (.call _); refine jcall0 (v := .int .i32 (rn (H.s.drop x.pos))) (cM H (mv (wd (H.s.drop x.pos)) x) st (wd (H.s.drop x.pos)) gd q F G) bo93 rfl rfl rfl (next_st hX x st W _ _ hS.p) ?_) | (show Jo (some 15) (.call _); refine jcall (ι := RS) (v := fun _ => .nilFunc) (m' := fun q' => cM H (errI (mv (wd (H.s.drop x.pos)) x)) st (wd (H.s.drop x.pos)) gd q' F G) (fun q' => StOk _ H (errI (mv (wd (H.s.drop x.pos)) x)) q' G) bo112 rfl rfl rfl (err_st hX hSn st _ _ (by dsimp only [mv]; omega) _ _) (fun q1 hS1 => ?_)) | (show Jo (some 23) (.call _); refine jcallq bo99 rfl rfl rfl (quietC fun w' hw' => (space_calls _).mono fun e w'' h => ⟨h.1.trans (congrArg (fun b => Ending.returned (Value.bool b)) hB), h.2⟩) ?_) | (show Jo (some 103) (.call _); refine jcallq bo175 rfl rfl rfl (quietC fun w' hw' => (alh_calls (hX.tab hw') (rn_i32 _)).mono fun e w'' h => ⟨h.1.trans (congrArg (fun b => Ending.returned (Value.bool b)) hA), h.2⟩) ?_) | (show Jo (some 119) (.call _); refine jcallq bo176 rfl rfl rfl (quietC fun w' hw' => (alnum_calls (hX.tab hw') (rn_i32 _)).mono fun e w'' h => ⟨h.1.trans (congrArg (fun b => Ending.returned (Value.bool b)) hA2), h.2⟩) ?_)) | (show Jo _ (.makeInterface 21 _); refine jy (ymkI rfl co21) rfl rfl ?_) | (show Jo _ (.buildSlice 130 _ _); refine jlitN (n := 1) (vs := [.iface 21 _]) rfl rfl rfl rfl gr153 rfl rfl rfl rfl (fun gz hTz => ?_); refine jless (List.sublist_cons_self _ _) ?_)))
          exact ret1 rfl rfl rfl (fun w' hw' => ⟨q1, _, G, rfl, hw.up hw', StOk.up hw hS1⟩)
        · rw [if_pos ⟨hst, .inl hA⟩] at hr
          rw [← hr]
          repeat' (first | refine cseq ?_ | refine rtext ?_ | refine ctrue rfl ?_ | refine cfalse rfl ?_ | refine cskip ?_ | refine cblk ?_ | refine cret ?_ | refine tret ?_ | refine bret ?_ | refine jnil ?_ | (first | refine js rfl rfl ?_ | refine jmv rfl rfl rfl ?_ | refine jy (ynil rfl) rfl rfl ?_ | (show Jo _ (.fieldAddr _ _ _); refine jy (yfield rfl (by first | exact fb110_10 | exact fb108_5) rfl) rfl rfl ?_) | (show Jo _ (.load _ _); refine jy (yload (i := 0) rfl rfl rfl one3) rfl rfl ?_) | refine jas_ rfl rfl rfl ?_ | (show Jo _ (.binOp _ _ _ _ _); first | (show Jo _ (.binOp .gtr _ _ _ _); refine jy (ygtr rfl rfl (by (exact decide_eq_true (by (try dsimp only [lsOf, mv, ign, emitL]); omega)))) rfl rfl ?_) | refine jy (yeql rfl rfl (by (exact decide_eq_false (by omega)))) rfl rfl ?_) | (show Jo _ (.pick _ _ _); refine jy (ypick1 rfl rfl) rfl rfl ?_) | (show Jo _ (.call _); first | (show Jo (some 7) (.call _); refine jcall (ι := Nat) (v := fun g => fV g (rd x.md)) (m' := fun g => fB g (rd x.md) :: cM H x st W gd q F G) (fun _ => True) bo168 rfl rfl rfl (fun w' hw' => (cur168 (E := iB H :: qB q :: eM H x gd F G) (lsOf x st W (fV gd (divr x.org)) q.val) x.md rfl w' hw').mono fun e w'' ⟨g, h1, h2, _⟩ => ⟨g, h1, h2, trivial⟩) (fun g _ => ?_)) | (show Jo (some 8) (.call _); refine jcall0 (v := .bool ((rd x.md).isPrefixOf (H.s.drop x.pos))) (cM H x st W gd q F G) bo115 rfl rfl rfl (hasP_st hX (lsOf x st W (fV gd (divr x.org)) q.val) hS.p g (rd x.md)) ?_; rw [hP]) | (show Jo (some 10) (.call _); refine jcall0 (v := .int .i32 (rn (H.s.drop x.pos))) (cM H (mv (wd (H.s.drop x.pos)) x) st (wd (H.s.drop x.pos)) gd q F G) bo93 rfl rfl rfl (next_st hX x st W _ _ hS.p) ?_) | (show Jo (some 23) (.call _); refine jcallq bo99 rfl rfl rfl (quietC fun w' hw' => (space_calls _).mono fun e w'' h => ⟨h.1.trans (congrArg (fun b => Ending.returned (Value.bool b)) hB), h.2⟩) ?_) | (show Jo (some 103) (.call _); refine jcallq bo175 rfl rfl rfl (quietC fun w' hw' => (alh_calls (hX.tab hw') (rn_i32 _)).mono fun e w'' h => ⟨h.1.trans (congrArg (fun b => Ending.returned (Value.bool b)) hA), h.2⟩) ?_) | (show Jo (some 114) (.call _); refine jcall0 (v := .tuple #[]) (cM H x st (wd (H.s.drop x.pos)) gd q F G) bo117 rfl rfl rfl (back_st hX x st _ _ (wd (H.s.drop x.pos)) hwl) ?_) | (show Jo (some 116) (.call _); refine jcall (ι := RS × Nat × Mem) (vs := [pL H, .bool false]) (v := fun _ => stV (param (envU tr) H.s false x).2) (m' := fun u => cM H (param (envU tr) H.s false x).1 st u.2.1 gd u.1 F u.2.2) (fun u => StOk _ H (param (envU tr) H.s false x).1 u.1 u.2.2) bo174 rfl rfl rfl (fun w' hw' => (param_calls hX hl32 hS hf tr st _ gd false w' hw').mono fun e w'' ⟨q', W', G', h1, h2, h3⟩ => ⟨(q', W', G'), h1, h2, h3⟩) (fun u hSu => ?_)))))
          exact ret1 rfl rfl rfl (fun w' hw' => ⟨u.1, u.2.1, u.2.2, rfl, hw.up hw', StOk.up hw hSu⟩)
      · rw [if_neg (fun h => hst h.1)] at hr
        cases hA2 : alU (rn (H.s.drop x.pos))
        · rw [hA2, if_neg (by simp)] at hr
          rw [← hr]
          repeat' (first | refine cseq ?_ | refine rtext ?_ | refine cfalse rfl ?_ | refine cskip ?_ | refine cblk ?_ | refine cret ?_ | refine tret ?_ | refine bret ?_ | refine jnil ?_ | (first | refine js rfl rfl ?_ | refine jmv rfl rfl rfl ?_ | refine jy (ynil rfl) rfl rfl ?_ | (show Jo _ (.fieldAddr _ _ _); refine jy (yfield rfl (by first | exact fb110_10 | exact fb108_5) rfl) rfl rfl ?_) | (show Jo _ (.load _ _); refine jy (yload (i := 0) rfl rfl rfl one3) rfl rfl ?_) | refine jas_ rfl rfl rfl ?_ | (show Jo _ (.binOp _ _ _ _ _); first | (show Jo _ (.binOp .gtr _ _ _ _); refine jy (ygtr rfl rfl (by (exact decide_eq_false (by (try dsimp only [lsOf, mv, ign, emitL]); omega)))) rfl rfl ?_) | refine jy (yeql rfl rfl (by (exact decide_eq_false (by omega)))) rfl rfl ?_) | (show Jo _ (.pick _ _ _); refine jy (ypick0 rfl rfl) rfl rfl ?_) | (show Jo _ (.call _); first | (show Jo (some 7) (.call _); refine jcall (ι := Nat) (v := fun g => fV g (rd x.md)) (m' := fun g => fB g (rd x.md) :: cM H x st W gd q F G) (fun _ => True) bo168 rfl rfl rfl (fun w' hw' => (cur168 (E := iB H :: qB q :: eM H x gd F G) (lsOf x st W (fV gd (divr x.org)) q.val) x.md rfl w' hw').mono fun e w'' ⟨g, h1, h2, _⟩ => ⟨g, h1, h2, trivial⟩) (fun g _ => ?_)) | (show Jo (some 8) (.call _); refine jcall0 (v := .bool ((rd x.md).isPrefixOf (H.s.drop x.pos))) (cM H x st W gd q F G) bo115 rfl rfl rfl (hasP_st hX (lsOf x st W (fV gd (divr x.org)) q.val) hS.p g (rd x.md)) ?_; rw [hP]) | (show Jo (some 10) (.call _); refine jcall0 (v := .int .i32 (rn (H.s.drop x.pos))) (cM H (mv (wd (H.s.drop x.pos)) x) st (wd (H.s.drop x.pos)) gd q F G) bo93 rfl rfl rfl (next_st hX x st W _ _ hS.p) ?_) | (show Jo (some 15) (.call _); refine jcall (ι := RS) (v := fun _ => .nilFunc) (m' := fun q' => cM H (errI (mv (wd (H.s.drop x.pos)) x)) st (wd (H.s.drop x.pos)) gd q' F G) (fun q' => StOk _ H (errI (mv (wd (H.s.drop x.pos)) x)) q' G) bo112 rfl rfl rfl (err_st hX hSn st _ _ (by dsimp only [mv]; omega) _ _) (fun q1 hS1 => ?_)) | (show Jo (some 23) (.call _); refine jcallq bo99 rfl rfl rfl (quietC fun w' hw' => (space_calls _).mono fun e w'' h => ⟨h.1.trans (congrArg (fun b => Ending.returned (Value.bool b)) hB), h.2⟩) ?_) | (show Jo (some 119) (.call _); refine jcallq bo176 rfl rfl rfl (quietC fun w' hw' => (alnum_calls (hX.tab hw') (rn_i32 _)).mono fun e w'' h => ⟨h.1.trans (congrArg (fun b => Ending.returned (Value.bool b)) hA2), h.2⟩) ?_)) | (show Jo _ (.makeInterface 21 _); refine jy (ymkI rfl co21) rfl rfl ?_) | (show Jo _ (.buildSlice 130 _ _); refine jlitN (n := 1) (vs := [.iface 21 _]) rfl rfl rfl rfl gr153 rfl rfl rfl rfl (fun gz hTz => ?_); refine jless (List.sublist_cons_self _ _) ?_)))
          exact ret1 rfl rfl rfl (fun w' hw' => ⟨q1, _, G, rfl, hw.up hw', StOk.up hw hS1⟩)
        · rw [hA2, if_pos rfl] at hr
          rw [← hr]
          repeat' (first | refine cseq ?_ | refine rtext ?_ | refine ctrue rfl ?_ | refine cfalse rfl ?_ | refine cskip ?_ | refine cblk ?_ | refine cret ?_ | refine tret ?_ | refine bret ?_ | refine jnil ?_ | (first | refine js rfl rfl ?_ | refine jmv rfl rfl rfl ?_ | refine jy (ynil rfl) rfl rfl ?_ | (show Jo _ (.fieldAddr _ _ _); refine jy (yfield rfl (by first | exact fb110_10 | exact fb108_5) rfl) rfl rfl ?_) | (show Jo _ (.load _ _); refine jy (yload (i := 0) rfl rfl rfl one3) rfl rfl ?_) | refine jas_ rfl rfl rfl ?_ | (show Jo _ (.binOp _ _ _ _ _); first | (show Jo _ (.binOp .gtr _ _ _ _); refine jy (ygtr rfl rfl (by (exact decide_eq_false (by (try dsimp only [lsOf, mv, ign, emitL]); omega)))) rfl rfl ?_) | refine jy (yeql rfl rfl (by (exact decide_eq_false (by omega)))) rfl rfl ?_) | (show Jo _ (.pick _ _ _); refine jy (ypick0 rfl rfl) rfl rfl ?_) | (show Jo _ (.call _); first | (show Jo (some 7) (.call _); refine jcall (ι := Nat) (v := fun g => fV g (rd x.md)) (m' := fun g => fB g (rd x.md) :: cM H x st W gd q F G) (fun _ => True) bo168 rfl rfl rfl (fun w' hw' => (cur168 (E := iB H :: qB q :: eM H x gd F G) (lsOf x st W (fV gd (divr x.org)) q.val) x.md rfl w' hw').mono fun e w'' ⟨g, h1, h2, _⟩ => ⟨g, h1, h2, trivial⟩) (fun g _ => ?_)) | (show Jo (some 8) (.call _); refine jcall0 (v := .bool ((rd x.md).isPrefixOf (H.s.drop x.pos))) (cM H x st W gd q F G) bo115 rfl rfl rfl (hasP_st hX (lsOf x st W (fV gd (divr x.org)) q.val) hS.p g (rd x.md)) ?_; rw [hP]) | (show Jo (some 10) (.call _); refine jcall0 (v := .int .i32 (rn (H.s.drop x.pos))) (cM H (mv (wd (H.s.drop x.pos)) x) st (wd (H.s.drop x.pos)) gd q F G) bo93 rfl rfl rfl (next_st hX x st W _ _ hS.p) ?_) | (show Jo (some 23) (.call _); refine jcallq bo99 rfl rfl rfl (quietC fun w' hw' => (space_calls _).mono fun e w'' h => ⟨h.1.trans (congrArg (fun b => Ending.returned (Value.bool b)) hB), h.2⟩) ?_) | (show Jo (some 119) (.call _); refine jcallq bo176 rfl rfl rfl (quietC fun w' hw' => (alnum_calls (hX.tab hw') (rn_i32 _)).mono fun e w'' h => ⟨h.1.trans (congrArg (fun b => Ending.returned (Value.bool b)) hA2), h.2⟩) ?_) | (show Jo (some 121) (.call _); refine jcall0 (v := .tuple #[]) (cM H x st (wd (H.s.drop x.pos)) gd q F G) bo117 rfl rfl rfl (back_st hX x st _ _ (wd (H.s.drop x.pos)) hwl) ?_))))
          exact ret1 rfl rfl rfl (fun w' hw' => ⟨q, _, G, rfl, hw.up hw', StOk.up hw hS⟩)
    · rw [hB, if_pos rfl] at hr
      have hw1 : (wd (H.s.drop x.pos)) = 1 := by
        cases hd : H.s.drop x.pos with
        | nil => exact absurd hd hne
        | cons c r => rw [hd, isSpI_cons] at hB; exact isSp_wd hB
      rw [← hw1] at hr
      rw [← hr]
      repeat' (first | refine cseq ?_ | refine rtext ?_ | refine ctrue rfl ?_ | refine cfalse rfl ?_ | refine cskip ?_ | refine cblk ?_ | refine cret ?_ | refine jnil ?_ | (first | refine jmv rfl rfl rfl ?_ | refine jas_ rfl rfl rfl ?_ | (show Jo _ (.binOp _ _ _ _ _); refine jy (yeql rfl rfl (by (exact decide_eq_false (by omega)))) rfl rfl ?_) | (show Jo _ (.call _); first | (show Jo (some 7) (.call _); refine jcall (ι := Nat) (v := fun g => fV g (rd x.md)) (m' := fun g => fB g (rd x.md) :: cM H x st W gd q F G) (fun _ => True) bo168 rfl rfl rfl (fun w' hw' => (cur168 (E := iB H :: qB q :: eM H x gd F G) (lsOf x st W (fV gd (divr x.org)) q.val) x.md rfl w' hw').mono fun e w'' ⟨g, h1, h2, _⟩ => ⟨g, h1, h2, trivial⟩) (fun g _ => ?_)) | (show Jo (some 8) (.call _); refine jcall0 (v := .bool ((rd x.md).isPrefixOf (H.s.drop x.pos))) (cM H x st W gd q F G) bo115 rfl rfl rfl (hasP_st hX (lsOf x st W (fV gd (divr x.org)) q.val) hS.p g (rd x.md)) ?_; rw [hP]) | (show Jo (some 10) (.call _); refine jcall0 (v := .int .i32 (rn (H.s.drop x.pos))) (cM H (mv (wd (H.s.drop x.pos)) x) st (wd (H.s.drop x.pos)) gd q F G) bo93 rfl rfl rfl (next_st hX x st W _ _ hS.p) ?_) | (show Jo (some 23) (.call _); refine jcallq bo99 rfl rfl rfl (quietC fun w' hw' => (space_calls _).mono fun e w'' h => ⟨h.1.trans (congrArg (fun b => Ending.returned (Value.bool b)) hB), h.2⟩) ?_) | (show Jo (some 25) (.call _); refine jcall0 (v := .tuple #[]) (cM H (ign (mv (wd (H.s.drop x.pos)) x)) st (wd (H.s.drop x.pos)) gd q F G) bo114 rfl rfl rfl (ign_st hX (mv (wd (H.s.drop x.pos)) x) st _ _ _) ?_))))
      exact ret1 rfl rfl rfl (fun w' hw' => ⟨q, _, G, rfl, hw.up hw', (StOk.up hw hSn).mv rfl hwl (Nat.le_refl _)⟩)
  · have e1 : r = (x, some .right) := by
      rw [← hr]
      unfold inside
      dsimp only
      rw [if_pos hP]
    rw [e1]
    repeat' (first | refine cseq ?_ | refine rtext ?_ | refine ctrue rfl ?_ | refine cret ?_ | refine tret ?_ | refine jnil ?_ | (first | refine jmv rfl rfl rfl ?_ | refine jas_ rfl rfl rfl ?_ | (show Jo _ (.call _); first | (show Jo (some 7) (.call _); refine jcall (ι := Nat) (v := fun g => fV g (rd x.md)) (m' := fun g => fB g (rd x.md) :: cM H x st W gd q F G) (fun _ => True) bo168 rfl rfl rfl (fun w' hw' => (cur168 (E := iB H :: qB q :: eM H x gd F G) (lsOf x st W (fV gd (divr x.org)) q.val) x.md rfl w' hw').mono fun e w'' ⟨g, h1, h2, _⟩ => ⟨g, h1, h2, trivial⟩) (fun g _ => ?_)) | (show Jo (some 8) (.call _); refine jcall0 (v := .bool ((rd x.md).isPrefixOf (H.s.drop x.pos))) (cM H x st W gd q F G) bo115 rfl rfl rfl (hasP_st hX (lsOf x st W (fV gd (divr x.org)) q.val) hS.p g (rd x.md)) ?_; rw [hP]))))
    exact ret1 rfl rfl rfl (fun w' hw' => ⟨q, W, G, rfl, hw.up hw', StOk.up hw hS⟩)
theorem bo108 : bodyB Tryz.prog 88 = true := by kernel_rfl
theorem bo126 : bodyB Tryz.prog 104 = true := by kernel_rfl
theorem bo139 : bodyB Tryz.prog 117 = true := by kernel_rfl
theorem bo153 : bodyB Tryz.prog 131 = true := by kernel_rfl
theorem bo164 : bodyB Tryz.prog 142 = true := by kernel_rfl
theorem und152 : Tryz.prog.underlying 129 = some (.array 256 5) := by kernel_rfl
theorem ba_size (l : T) : (ba l).size = l.length := by simp [ba, ByteArray.size]
theorem ba_ext (l : T) (k : Nat) : (ba l).extract k l.length = ba (l.drop k) := by
  have h : ((ba l).extract k l.length).data.toList = l.drop k := by
    simp [ba, List.drop_take]
    exact List.take_of_length_le (by simp)
  unfold ba at h ⊢
  rw [← h]
theorem bytesAt {w : World} {l : T} {b o c : Nat} (h : Byt w (.slice (some ⟨b, o, none⟩) l.length c) l) : Go.Proofs.BytesAt (ba l) b o w := fun j hj => by
  rw [ba_size] at hj
  obtain ⟨b', o', c', he, _, hc⟩ := h
  cases he
  rw [hc j l[j] (List.getElem?_eq_getElem hj)]
  simp [ba, ByteArray.get!, hj]
def nsp (r : Nat) : Bool := !isSpI (r : Int)
theorem nsp_calls {w : World} (r : Int) : Calls Tryz.prog 132 #[.int .i32 r] w fun e w' => e = .returned (.bool (!isSpI r)) ∧ Below w.heap.size w w' := by
  refine enter (fun _ => False) 6 [] Tryz.func132 rfl rfl rfl (vs := [.int .i32 r]) (Has.nil _) ?_
  conv => arg 2; arg 2; whnf
  repeat' (first | refine cseq ?_ | refine rtext ?_ | refine cret ?_ | refine jnil ?_ | (first | refine jmv rfl rfl rfl ?_ | refine jas_ rfl rfl rfl ?_ | refine jy (ynot rfl rfl) rfl rfl ?_ | (show Jo _ (.call _); ((show Jo _ (.call ⟨.value (.func 79), _, _⟩); refine jcallq bo99 rfl rfl rfl (quietC fun w' hw' => space_calls _) ?_)))))
  exact ret1 rfl rfl rfl (fun w' hw' => ⟨rfl, hw'.2.below (fun k _ h => h) (Nat.le_refl _)⟩)
theorem nsp_grows (w : World) : Go.Proofs.PredGrows Tryz.prog 132 #[] nsp w := fun W x _ _ => nsp_calls (x : Int)
theorem ent154 : ∀ args w, (callFunc 132 args).run Tryz.prog w = .ok (.enter 132 args) w := Go.Proofs.enters_of Tryz.func132 (by kernel_rfl) rfl
def nwI (l : T) : Int := if spN l < l.length then (spN l : Int) else -1
theorem idxFrom_sp (l : T) : ∀ (f pos : Nat), pos ≤ l.length → l.length ≤ pos + f → Lib.idxFuncFrom nsp true (ba l) f pos = if spN (l.drop pos) < (l.drop pos).length then ((pos + spN (l.drop pos) : Nat) : Int) else -1 := by
  intro f
  induction f with
  | zero =>
    intro pos h1 h2
    have : l.drop pos = [] := List.drop_eq_nil_of_le (by omega)
    rw [this]
    rfl
  | succ f ih =>
    intro pos h1 h2
    unfold Lib.idxFuncFrom
    rw [ba_size, decode_dec]
    have hb : (ba l).data.toList = l := by simp [ba]
    rw [hb]
    by_cases hp : pos < l.length
    · rw [if_pos hp]
      cases hd : l.drop pos with
      | nil => have := congrArg List.length hd; rw [List.length_drop] at this; simp at this; omega
      | cons c r =>
        have hne : c :: r ≠ [] := by simp
        have e1 : rn (c :: r) = ((dec (c :: r)).1 : Int) := by unfold rn; rw [if_neg hne]
        have e2 : wd (c :: r) = (dec (c :: r)).2 := by unfold wd; rw [if_neg hne]
        have e3 : nsp (dec (c :: r)).1 = !isSpI (rn (c :: r)) := by unfold nsp; rw [e1]
        rw [e3, isSpI_cons]
        cases hs : isSp c.toNat
        · rw [if_pos (show (!false) = true from rfl)]
          have hz : spN (c :: r) = 0 := by unfold spN; rw [if_neg (by rw [hs]; simp)]
          rw [hz, if_pos (by simp)]
          rfl
        · rw [if_neg (by simp)]
          have hw1 : (dec (c :: r)).2 = 1 := by rw [← e2]; exact isSp_wd hs
          have hz : spN (c :: r) = spN r + 1 := by
            conv => lhs; unfold spN
            rw [if_pos hs]
          have hr : l.drop (pos + 1) = r := by rw [← List.drop_drop, hd]; rfl
          rw [hw1, ih (pos + 1) (by omega) (by omega), hr, hz, List.length_cons]
          by_cases hlt : spN r < r.length
          · rw [if_pos hlt, if_pos (by omega)]
            congr 1
            omega
          · rw [if_neg hlt, if_neg (by omega)]
    · rw [if_neg hp]
      have : l.drop pos = [] := List.drop_eq_nil_of_le (by omega)
      rw [this]
      rfl
theorem idx_sp (l : T) : Lib.idxFunc nsp true (ba l) = nwI l := by
  unfold Lib.idxFunc
  rw [ba_size, idxFrom_sp l l.length 0 (Nat.zero_le _) (by omega)]
  unfold nwI
  simp
theorem indexFunc_calls {w : World} {v : Value} {l : T} (hT : Tab w) (hB : Byt w v l) (hl : l.length ≤ 9223372036854775807) : Calls Tryz.prog 142 #[v, .func (.func 132) #[] #[], .bool true] w fun e w' => e = .returned (.int .i64 (nwI l)) ∧ Below w.heap.size w w' := by
  obtain ⟨b, o, c, rfl, hc, hcs⟩ := hB
  have hB : Byt w (.slice (some ⟨b, o, none⟩) l.length c) l := ⟨b, o, c, rfl, hc, hcs⟩
  have h := Go.Proofs.Any7.bytes_indexFunc Tryz.lays7n55 132 #[] ent154 nsp true (ba l) b o c w (by rw [ba_size]; exact hc) (by rw [ba_size]; exact hl) (bytesAt hB) hT.utf8 (nsp_grows w)
  rw [ba_size, idx_sp] at h
  exact h
theorem IndexFunc_calls {w : World} {v : Value} {l : T} (hT : Tab w) (hB : Byt w v l) (hl : l.length ≤ 9223372036854775807) : Calls Tryz.prog 131 #[v, .func (.func 132) #[] #[]] w fun e w' => e = .returned (.int .i64 (nwI l)) ∧ Below w.heap.size w w' := by
  refine enter (fun _ => False) 8 [] Tryz.func131 rfl rfl rfl (vs := [v, .func (.func 132) #[] #[]]) (Has.nil _) ?_
  conv => arg 2; arg 2; whnf
  repeat' (first | refine cseq ?_ | refine rtext ?_ | refine cret ?_ | refine jnil ?_ | (first | refine jmv rfl rfl rfl ?_ | refine jas_ rfl rfl rfl ?_ | (show Jo _ (.call _); ((show Jo _ (.call ⟨.value (.func 142), _, _⟩); refine jcallq bo164 rfl rfl rfl (quietC fun w' hw' => indexFunc_calls (hT.below (hw'.2.below (fun k _ h => h) (Nat.le_refl _))) (hB.below (hw'.2.below (fun _ _ h => h) (Nat.le_refl _)) (Nat.le_refl _)) hl) ?_)))))
  exact ret1 rfl rfl rfl (fun w' hw' => ⟨rfl, hw'.2.below (fun k _ h => h) (Nat.le_refl _)⟩)
def nwS (l : T) : Int := if (l.drop (spN l)).head? = some 47 then (spN l : Int) else -1
theorem nonWhite_calls {w : World} {v : Value} {l : T} (hT : Tab w) (hB : Byt w v l) (hl : l.length ≤ 9223372036854775807) : Calls Tryz.prog 117 #[v, .int .i32 47] w fun e w' => e = .returned (.int .i64 (nwS l)) ∧ Below w.heap.size w w' := by
  obtain ⟨b, o, c, rfl, hc, hcs⟩ := hB
  have hB : Byt w (.slice (some ⟨b, o, none⟩) l.length c) l := ⟨b, o, c, rfl, hc, hcs⟩
  refine enter (fun _ => False) 23 [] Tryz.func117 rfl rfl rfl (vs := [.slice (some ⟨b, o, none⟩) l.length c, .int .i32 47]) (Has.nil _) ?_
  conv => arg 2; arg 2; whnf
  by_cases hlt : spN l < l.length
  · have hN : nwI l = (spN l : Int) := by unfold nwI; rw [if_pos hlt]
    have hsub := hB.sub (spN l) (l.length - spN l) (by omega)
    rw [List.take_of_length_le (by simp)] at hsub
    have hne : l.drop (spN l) ≠ [] := fun h => by have := congrArg List.length h; rw [List.length_drop] at this; simp at this; omega
    rcases Decidable.em (rn (l.drop (spN l)) = 47) with h47 | h47
    · have e1 : nwS l = (spN l : Int) := by
        unfold nwS
        rw [if_pos]
        rw [head_rn (k := 47) (by decide)]
        exact h47
      rw [e1]
      repeat' (first | refine cseq ?_ | refine rtext ?_ | refine ctrue rfl ?_ | refine cfalse rfl ?_ | refine cskip ?_ | refine cret ?_ | refine tret ?_ | refine jnil ?_ | (first | refine jmv rfl rfl rfl ?_ | refine jas_ rfl rfl rfl ?_ | (show Jo _ (.binOp _ _ _ _ _); (refine jy (yeql rfl rfl (by first | exact decide_eq_true (by omega) | exact decide_eq_false (by omega))) rfl rfl ?_)) | (show Jo _ (.call _); first | (show Jo _ (.call ⟨.value (.func 131), _, _⟩); refine jcallq bo153 rfl rfl rfl (quietC fun w' hw' => IndexFunc_calls (hT.below (hw'.2.below (fun k _ h => h) (Nat.le_refl _))) (hB.below (hw'.2.below (fun _ _ h => h) (Nat.le_refl _)) (Nat.le_refl _)) hl) ?_; rw [hN]) | (show Jo _ (.call ⟨.value (.func 89), _, _⟩); refine jcallq bo111 rfl rfl rfl (quietC fun w' hw' => dec_calls (hT.below (hw'.2.below (fun k _ h => h) (Nat.le_refl _))).utf8 (hsub.below (hw'.2.below (fun _ _ h => h) (Nat.le_refl _)) (Nat.le_refl _)) hne) ?_)) | (show Jo _ (.extract _ _); refine jy (yextractL rfl rfl) rfl rfl ?_) | (show Jo _ (.slice 62 _ (some _) none none); refine jy (yslL (n := spN l) rfl rfl und59 sz5 rfl (by omega) rfl rfl rfl) rfl rfl ?_)))
      exact ret1 rfl rfl rfl (fun w' hw' => ⟨rfl, hw'.2.below (fun k _ h => h) (Nat.le_refl _)⟩)
    · have e1 : nwS l = -1 := by
        unfold nwS
        rw [if_neg]
        rw [head_rn (k := 47) (by decide)]
        exact h47
      rw [e1]
      repeat' (first | refine cseq ?_ | refine rtext ?_ | refine cfalse rfl ?_ | refine cskip ?_ | refine cret ?_ | refine jnil ?_ | (first | refine jmv rfl rfl rfl ?_ | refine jas_ rfl rfl rfl ?_ | (show Jo _ (.binOp _ _ _ _ _); refine jy (yeql rfl rfl (by (exact decide_eq_false (by omega)))) rfl rfl ?_) | (show Jo _ (.call _); first | (show Jo _ (.call ⟨.value (.func 131), _, _⟩); refine jcallq bo153 rfl rfl rfl (quietC fun w' hw' => IndexFunc_calls (hT.below (hw'.2.below (fun k _ h => h) (Nat.le_refl _))) (hB.below (hw'.2.below (fun _ _ h => h) (Nat.le_refl _)) (Nat.le_refl _)) hl) ?_; rw [hN]) | (show Jo _ (.call ⟨.value (.func 89), _, _⟩); refine jcallq bo111 rfl rfl rfl (quietC fun w' hw' => dec_calls (hT.below (hw'.2.below (fun k _ h => h) (Nat.le_refl _))).utf8 (hsub.below (hw'.2.below (fun _ _ h => h) (Nat.le_refl _)) (Nat.le_refl _)) hne) ?_)) | (show Jo _ (.extract _ _); refine jy (yextractL rfl rfl) rfl rfl ?_) | (show Jo _ (.slice 62 _ (some _) none none); refine jy (yslL (n := spN l) rfl rfl und59 sz5 rfl (by omega) rfl rfl rfl) rfl rfl ?_)))
      exact ret1 rfl rfl rfl (fun w' hw' => ⟨rfl, hw'.2.below (fun k _ h => h) (Nat.le_refl _)⟩)
  · have hN : nwI l = -1 := by unfold nwI; rw [if_neg hlt]
    have e1 : nwS l = -1 := by
      unfold nwS
      rw [if_neg]
      rw [List.drop_of_length_le (by omega)]
      simp
    rw [e1]
    repeat' (first | refine cseq ?_ | refine rtext ?_ | refine ctrue rfl ?_ | refine cret ?_ | refine tret ?_ | refine jnil ?_ | (first | refine jmv rfl rfl rfl ?_ | refine jas_ rfl rfl rfl ?_ | (show Jo _ (.binOp _ _ _ _ _); refine jy (yeql rfl rfl (by (exact decide_eq_true (by omega)))) rfl rfl ?_) | (show Jo _ (.call _); ((show Jo _ (.call ⟨.value (.func 131), _, _⟩); refine jcallq bo153 rfl rfl rfl (quietC fun w' hw' => IndexFunc_calls (hT.below (hw'.2.below (fun k _ h => h) (Nat.le_refl _))) (hB.below (hw'.2.below (fun _ _ h => h) (Nat.le_refl _)) (Nat.le_refl _)) hl) ?_; rw [hN])))))
    exact ret1 rfl rfl rfl (fun w' hw' => ⟨rfl, hw'.2.below (fun k _ h => h) (Nat.le_refl _)⟩)
def SlB (w : World) (v : Value) (l : T) : Prop := Byt w v l ∨ (l = [] ∧ v = .slice none 0 0)
def usp (r : Nat) : Bool := Lib.isSpaceZ (r : Int)
def trimU (l : T) : T := if Lib.idxFunc usp false (ba l) = -1 then [] else (l.drop (Lib.idxFunc usp false (ba l)).toNat).take (Lib.rightEndF usp (ba (l.drop (Lib.idxFunc usp false (ba l)).toNat)))
theorem ent127 : ∀ args w, (callFunc 105 args).run Tryz.prog w = .ok (.enter 105 args) w := Go.Proofs.enters_of Tryz.func105 (by kernel_rfl) rfl
theorem usp_grows {w : World} (hT : Tab w) : Go.Proofs.PredGrows Tryz.prog 105 #[] usp w := fun W x hx hb => Tryz.unicode_IsSpace_any (x : Int) W (by omega) (by omega) (hT.below hb).white
theorem rightEnd_le (p : Nat → Bool) (s : ByteArray) : Lib.rightEndF p s ≤ s.size := by
  unfold Lib.rightEndF
  split
  · rename_i h0
    rcases Go.Proofs.lastIdx_lt p false s s.size s.size (Nat.le_refl _) with h | ⟨h1, h2⟩
    · have h : Lib.lastIdxFunc p false s = -1 := h
      omega
    · have h2 : Lib.lastIdxFunc p false s < s.size := h2
      have h3 := Lib.decodeGo_le_size (s.extract (Lib.lastIdxFunc p false s).toNat s.size)
      rw [Lib.tail_size] at h3
      have h4 : (Lib.decodeGoB (s.extract (Lib.lastIdxFunc p false s).toNat s.size)).2 = (Lib.decodeGo (s.extract (Lib.lastIdxFunc p false s).toNat s.size)).2 := rfl
      omega
  · exact Nat.zero_le _
theorem idxU_le (l : T) : Lib.idxFunc usp false (ba l) = -1 ∨ ∃ k : Nat, Lib.idxFunc usp false (ba l) = k ∧ k < l.length := by
  rcases Lib.idxFuncFrom_range usp false (ba l) (ba l).size 0 with h | h
  · exact .inl h
  · right
    rw [ba_size] at h
    refine ⟨(Lib.idxFunc usp false (ba l)).toNat, ?_, ?_⟩
    · unfold Lib.idxFunc; rw [ba_size]; omega
    · unfold Lib.idxFunc; rw [ba_size]; omega
theorem sl_cut {w : World} {l : T} {b o c : Nat} (hB : Byt w (.slice (some ⟨b, o, none⟩) l.length c) l) : SlB w (Go.Proofs.trimCut usp (ba l) b o c) (trimU l) := by
  obtain ⟨b', o', c', he, hc, hcs⟩ := hB
  cases he
  unfold Go.Proofs.trimCut trimU
  rcases idxU_le l with hk | ⟨k, hk, hkl⟩
  · rw [if_pos hk, if_pos hk]
    exact .inr ⟨rfl, rfl⟩
  · rw [if_neg (by omega), if_neg (by omega), hk]
    have hex : (ba l).extract (Int.toNat (k : Int)) (ba l).size = ba (l.drop k) := by rw [ba_size]; exact ba_ext l k
    rw [hex]
    unfold Go.Proofs.rightCut
    have hre := rightEnd_le usp (ba (l.drop k))
    rw [ba_size, List.length_drop] at hre
    show SlB w (.slice (some ⟨b, o + k, none⟩) (Lib.rightEndF usp (ba (l.drop k))) (c - k)) ((l.drop k).take (Lib.rightEndF usp (ba (l.drop k))))
    refine .inl ⟨b, o + k, c - k, by rw [List.length_take, List.length_drop, Nat.min_eq_left hre], by rw [List.length_take, List.length_drop]; omega, fun j x hj => ?_⟩
    have hj2 : l[k + j]? = some x := by
      rw [List.getElem?_take] at hj
      split at hj
      · rw [List.getElem?_drop] at hj; exact hj
      · cases hj
    rw [Nat.add_assoc]
    exact hcs (k + j) x hj2
theorem trimF_calls {w : World} {l : T} {b o c : Nat} (hT : Tab w) (hB : Byt w (.slice (some ⟨b, o, none⟩) l.length c) l) (hl : l.length ≤ 9223372036854775807) : Calls Tryz.prog 104 #[.slice (some ⟨b, o, none⟩) l.length c, .func (.func 105) #[] #[]] w fun e w' => e = .returned (Go.Proofs.trimCut usp (ba l) b o c) ∧ Below w.heap.size w w' := by
  have hc : l.length ≤ c := by obtain ⟨b', o', c', he, hc, _⟩ := hB; cases he; exact hc
  have h := Go.Proofs.Any7.bytes_TrimFunc Tryz.lays7n42 105 #[] ent127 usp (ba l) b o c w (by rw [ba_size]; exact hc) (by rw [ba_size]; exact hl) (bytesAt hB) hT.utf8 (usp_grows hT)
  rw [ba_size] at h
  exact h
theorem yatA {X : Cx} {P : Program} {f : Fr} {m : Mem} {d : Option Tmp} {ty : TypeId} {pos : String} {af : Array Edge} {gd : Option (Nat × Bool)} {x y : Operand} {p p' : Addr} {n z : Nat} {k : IntKind} {i : Int} {t e : TypeId} (hx : evF f x = some (.pointer (some p))) (hy : evF f y = some (.int k i)) (ht : P.underlying t = some (.array n e)) (hz : szB P e z = true) (h0 : 0 ≤ i) (h1 : i < n) (hp : p.add (i.toNat * z) = p') :
    Yl X P f m ⟨d, .indexAddr t x y, ty, pos, af, gd⟩ (.pointer (some p')) := .of fun a w st => by
  subst hp
  obtain ⟨inf, hi, rfl⟩ := szB_eq hz
  simp [execOp, st.agr.eval hx, st.agr.eval hy, Instr.indexAt, Instr.sureAddr, run_underlying ht, asIntOf, h0, h1, sizeOf, typeInfo, hi]
theorem libSp (c : UInt8) : Lib.isSp c = isSp c.toNat := by
  unfold Lib.isSp isSp
  have e : ∀ k : UInt8, (c == k) = (c.toNat == k.toNat) := fun k => by
    by_cases h : c = k
    · subst h; simp
    · rw [show (c == k) = false from by simpa using h, eq_comm, beq_eq_false_iff_ne]
      exact fun h' => h (UInt8.toNat_inj.1 h')
  simp only [e]
  rfl
def trE (s : T) : T := match s.reverse.dropWhile (fun c => isSp c.toNat) with
  | [] => []
  | d :: t => if 128 ≤ d.toNat then trimU (d :: t).reverse else (d :: t).reverse
def trS : T → T
  | [] => []
  | c :: r => if 128 ≤ c.toNat then trimU (c :: r) else if isSp c.toNat then trS r else trE (c :: r)
theorem trE_at {s : T} {m : Nat} {d : UInt8} (hm : 1 ≤ m) (hms : m ≤ s.length) (hsp : ∀ (j : Nat) x, m ≤ j → s[j]? = some x → isSp x.toNat = true) (hd : s[m - 1]? = some d) (hds : isSp d.toNat = false) : trE s = if 128 ≤ d.toNat then trimU (s.take m) else s.take m := by
  have h1 : s = s.take m ++ s.drop m := (List.take_append_drop m s).symm
  have h2 : s.take m = s.take (m - 1) ++ [d] := by
    have := List.take_add_one (l := s) (i := m - 1)
    rw [hd, show m - 1 + 1 = m by omega] at this
    exact this
  have h3 : s.reverse.dropWhile (fun c => isSp c.toNat) = (s.take m).reverse := by
    conv => lhs; rw [h1, List.reverse_append]
    rw [List.dropWhile_append_of_pos]
    · rw [h2, List.reverse_append]
      show (d :: (s.take (m - 1)).reverse).dropWhile _ = d :: (s.take (m - 1)).reverse
      rw [List.dropWhile_cons_of_neg (by rw [hds]; simp)]
    · intro x hx
      obtain ⟨j, hj⟩ := List.getElem?_of_mem (List.mem_reverse.1 hx)
      rw [List.getElem?_drop] at hj
      exact hsp (m + j) x (by omega) hj
  have h4 : (s.take m).reverse = d :: (s.take (m - 1)).reverse := by rw [h2, List.reverse_append]; rfl
  unfold trE
  rw [h3, h4]
  dsimp only
  rw [← h4, List.reverse_reverse]
theorem byt_drop {w : World} {l : T} {b o c : Nat} (h : Byt w (.slice (some ⟨b, o, none⟩) l.length c) l) (i : Nat) (hi : i ≤ l.length) (hlt : i < c) : Byt w (.slice (some ⟨b, o + i, none⟩) (l.drop i).length (c - i)) (l.drop i) := by
  have h1 := h.sub i (l.length - i) (by omega)
  rw [if_neg (by omega), List.take_of_length_le (by simp)] at h1
  have h2 : ((some (⟨b, o, none⟩ : Addr)).map (·.add (i * 1))) = some ⟨b, o + i, none⟩ := by show some ((⟨b, o, none⟩ : Addr).add (i * 1)) = _; rw [Nat.mul_one, add_at]
  rw [h2] at h1
  rw [List.length_drop]
  exact h1
theorem byt_cell {w : World} {l : T} {b o c : Nat} (h : Byt w (.slice (some ⟨b, o, none⟩) l.length c) l) {j : Nat} {x : UInt8} (hj : l[j]? = some x) : w.cell? ⟨b, o + j, none⟩ = some (.int .u8 (x.toNat : Int)) := by
  obtain ⟨b', o', c', he, _, hc⟩ := h
  cases he
  exact hc j x hj
theorem sp_cell {w : World} (hT : Tab w) (c : UInt8) : w.cell? ⟨0, c.toNat, none⟩ = some (.int .u8 (if isSp c.toNat then 1 else 0)) := by
  have h1 := hT.ascii.cell (show Tryz.prog.globalNamed "bytes.asciiSpace" = some 0 by kernel_rfl) c.toNat (by rw [Lib.asciiSpaceTab_length]; exact UInt8.toNat_lt c)
  rw [Lib.asciiSpaceTab_at c.toNat (UInt8.toNat_lt c), UInt8.ofNat_toNat, libSp] at h1
  exact h1
set_option maxHeartbeats 1000000 in
theorem trimSpace_calls {w : World} {l : T} {b o c : Nat} (hT : Tab w) (hB : Byt w (.slice (some ⟨b, o, none⟩) l.length c) l) (hl : l.length ≤ 4611686018427387904) : Calls Tryz.prog 88 #[.slice (some ⟨b, o, none⟩) l.length c] w fun e w' => ∃ v', e = .returned v' ∧ (∀ W, Byt W (.slice (some ⟨b, o, none⟩) l.length c) l → SlB W v' (trS l)) ∧ Below w.heap.size w w' := by
  have hcap : l.length ≤ c := by obtain ⟨b', o', c', he, hc, _⟩ := hB; cases he; exact hc
  refine enter (fun _ => False) 54 [] Tryz.func88 rfl rfl rfl (vs := [.slice (some ⟨b, o, none⟩) l.length c]) (Has.nil _) ?_
  conv => arg 2; arg 2; whnf
  generalize hr : trS l = r
  have post : ∀ (f : Fr) (m : Mem) (v : Value), Rx.look f 2 = some v → (∀ W, Byt W (.slice (some ⟨b, o, none⟩) l.length c) l → SlB W v r) → PJ ⟨54, [], fun _ => False, w⟩ (bodyPost Tryz.prog Tryz.f88 (fun e w' => ∃ v', e = .returned v' ∧ (∀ W, Byt W (.slice (some ⟨b, o, none⟩) l.length c) l → SlB W v' r) ∧ Below w.heap.size w w') .ret) f m := fun f m v hf hs =>
    ret1 rfl rfl hf (fun w' hw' => ⟨v, rfl, hs, hw'.2.below (fun k _ h => h) (Nat.le_refl _)⟩)
  repeat' (first | refine cseq ?_ | refine rtext ?_ | refine cblk ?_ | refine jnil ?_ | (first | refine jmv rfl rfl rfl ?_ | refine jas_ rfl rfl rfl ?_ | (show Jo _ (.call _); ((show Jo (some 8) (.call ⟨.builtin .len, _, _⟩); refine jy (ylenl rfl und59) rfl rfl ?_)))))
  refine fin (f' := [(0, .slice (some ⟨b, o, none⟩) l.length c), (7, .slice (some ⟨b, o, none⟩) l.length c), (8, .int .i64 l.length), (9, .int .i64 (0 : Nat))]) (m' := [])
    (cloop (ι := Nat) (fun i => [(0, .slice (some ⟨b, o, none⟩) l.length c), (7, .slice (some ⟨b, o, none⟩) l.length c), (8, .int .i64 l.length), (9, .int .i64 (i : Nat))]) (fun _ => []) (fun n i => n = l.length - i ∧ i ≤ l.length ∧ r = trS (l.drop i)) l.length 0 ⟨rfl, Nat.zero_le _, hr.symm⟩ ?_) ⟨rfl, rfl, rfl, rfl, trivial⟩ rfl
  rintro n i ⟨rfl, hi, hri⟩ K hK
  by_cases hlt : i < l.length
  · obtain ⟨ch, hch⟩ : ∃ ch, l[i]? = some ch := ⟨_, List.getElem?_eq_getElem hlt⟩
    have hc := byt_cell hB hch
    have hsc := sp_cell hT ch
    have h256 := UInt8.toNat_lt ch
    have hdc : l.drop i = ch :: l.drop (i + 1) := by
      obtain ⟨h1, h2⟩ := List.getElem?_eq_some_iff.1 hch
      rw [List.drop_eq_getElem_cons h1, h2]
    have hD := byt_drop hB i (by omega) (by omega)
    have hdl : (l.drop i).length ≤ 9223372036854775807 := by rw [List.length_drop]; omega
    have hdn : (l.drop i).length = l.length - i := List.length_drop ..
    have hsa : (if c = i then (some ⟨b, o, none⟩ : Option Addr) else (some (⟨b, o, none⟩ : Addr)).map (·.add (i * 1))) = some ⟨b, o + i, none⟩ := by
      rw [if_neg (by omega)]
      show some ((⟨b, o, none⟩ : Addr).add (i * 1)) = _
      rw [Nat.mul_one, add_at]
    have hsl : l.length - i = (l.drop i).length := hdn.symm
    have hsc2 : c - i = c - i := rfl
    have hrc : r = if 128 ≤ ch.toNat then trimU (l.drop i) else if isSp ch.toNat then trS (l.drop (i + 1)) else trE (l.drop i) := by
      rw [hri, hdc, trS]
    by_cases h128 : 128 ≤ ch.toNat
    · rw [if_pos h128] at hrc
      repeat' (first | refine cseq ?_ | refine rtext ?_ | refine ctrue rfl ?_ | refine cskip ?_ | refine cblk ?_ | refine cret ?_ | refine tret ?_ | refine bret ?_ | refine jnil ?_ | (first | refine jmv rfl rfl rfl ?_ | refine jas_ rfl rfl rfl ?_ | (show Jo _ (.binOp _ _ _ _ _); first | refine jy (ylss rfl rfl (by (exact decide_eq_true (by omega)))) rfl rfl ?_ | refine jy (ygeq rfl rfl (by (exact decide_eq_true (by omega)))) rfl rfl ?_) | (show Jo _ (.call _); ((show Jo (some 19) (.call _); refine jcallq bo126 rfl rfl rfl (quietC fun w' hw' => trimF_calls (hT.below (hw'.2.below (fun k _ h => h) (Nat.le_refl _))) (hD.below (hw'.2.below (fun _ _ h => h) (Nat.le_refl _)) (Nat.le_refl _)) hdl) ?_))) | (show Jo (some 12) _; refine jy (yat (p' := ⟨b, o + i, none⟩) rfl rfl und59 sz5 (by omega) (by omega) (by rw [add_at]; congr 1; omega)) rfl rfl ?_) | (show Jo (some 13) _; refine jy (yloadw rfl hc (fun h => h) one5) rfl rfl ?_) | (show Jo (some 18) _; refine jy (v := .slice (some ⟨b, o + i, none⟩) (l.drop i).length (c - i)) (yslL (n := i) rfl rfl und59 sz5 rfl (by omega) hsa hsl hsc2) rfl rfl ?_)))
      exact post _ _ _ rfl (fun W hW => by rw [hrc]; exact sl_cut (byt_drop hW i (by omega) (by omega)))
    · rw [if_neg h128] at hrc
      cases hsp : isSp ch.toNat
      · rw [hsp, if_neg (by simp)] at hrc hsc
        repeat' (first | refine cseq ?_ | refine rtext ?_ | refine ctrue rfl ?_ | refine cfalse rfl ?_ | refine cskip ?_ | refine cblk ?_ | refine jnil ?_ | (first | refine jmv rfl rfl rfl ?_ | refine jas_ rfl rfl rfl ?_ | (show Jo _ (.binOp _ _ _ _ _); first | (show Jo (some 29) _; refine jy (ysub (c := (((l.drop i).length : Nat) : Int) - 1) rfl rfl (i64_in (by omega) (by omega))) rfl rfl ?_) | (show Jo _ (.binOp .neq _ _ _ _); refine jy (yneq rfl rfl (by (exact decide_eq_false (by omega)))) rfl rfl ?_) | refine jy (ylss rfl rfl (by (exact decide_eq_true (by omega)))) rfl rfl ?_ | refine jy (ygeq rfl rfl (by (exact decide_eq_false (by omega)))) rfl rfl ?_) | (show Jo _ (.call _); ((show Jo (some 28) (.call ⟨.builtin .len, _, _⟩); refine jy (ylenl rfl und59) rfl rfl ?_))) | (show Jo (some 12) _; refine jy (yat (p' := ⟨b, o + i, none⟩) rfl rfl und59 sz5 (by omega) (by omega) (by rw [add_at]; congr 1; omega)) rfl rfl ?_) | (show Jo (some 13) _; refine jy (yloadw rfl hc (fun h => h) one5) rfl rfl ?_) | (show Jo (some 21) _; refine jy (yatA (p' := ⟨0, ch.toNat, none⟩) rfl rfl und152 sz5 (by omega) (by omega) (by rw [add_at]; congr 1; omega)) rfl rfl ?_) | (show Jo (some 22) _; refine jy (yloadw rfl hsc (fun h => h) one5) rfl rfl ?_) | (show Jo (some 26) _; refine jy (v := .slice (some ⟨b, o + i, none⟩) (l.drop i).length (c - i)) (yslL (n := i) rfl rfl und59 sz5 rfl (by omega) hsa hsl hsc2) rfl rfl ?_)))
        have hDW := fun W (hW : Byt W (.slice (some ⟨b, o, none⟩) l.length c) l) => byt_drop hW i (by omega) (show i < c by omega)
        obtain ⟨S, hS⟩ : ∃ S, S = l.drop i := ⟨_, rfl⟩
        rw [← hS] at hD hdl hdn hrc hDW ⊢
        obtain ⟨o2, ho2⟩ : ∃ o2, o2 = o + i := ⟨_, rfl⟩
        obtain ⟨c2, hc2⟩ : ∃ c2, c2 = c - i := ⟨_, rfl⟩
        rw [← ho2, ← hc2] at hD hDW ⊢
        have hSpos : 1 ≤ S.length := by omega
        have hcap2 : S.length ≤ c2 := by omega
        have hS0 : S[0]? = some ch := by rw [hS, hdc]; rfl
        refine fin (f' := [(0, .slice (some ⟨b, o2, none⟩) S.length c2), (5, .int .i64 ((S.length : Int) - 1))]) (m' := [])
          (cloop (ι := Nat) (fun m => [(0, .slice (some ⟨b, o2, none⟩) S.length c2), (5, .int .i64 ((m : Int) - 1))]) (fun _ => []) (fun n m => n = m ∧ 1 ≤ m ∧ m ≤ S.length ∧ ∀ (j : Nat) x, m ≤ j → S[j]? = some x → isSp x.toNat = true) S.length S.length ⟨rfl, hSpos, Nat.le_refl _, fun j x hj hx => by rw [List.getElem?_eq_none hj] at hx; cases hx⟩ ?_) ⟨rfl, rfl, trivial⟩ rfl
        rintro n m ⟨rfl, hm1, hms, hall⟩ K2 hK2
        obtain ⟨d, hd⟩ : ∃ d, S[n - 1]? = some d := ⟨_, List.getElem?_eq_getElem (by omega)⟩
        have hdcell := byt_cell hD hd
        have hdsp := sp_cell hT d
        have hd256 := UInt8.toNat_lt d
        by_cases hd128 : 128 ≤ d.toNat
        · have hds : isSp d.toNat = false := by
            unfold isSp
            simp only [Bool.or_eq_false_iff, beq_eq_false_iff_ne]
            omega
          have hrt := trE_at hm1 hms hall hd hds
          rw [if_pos hd128] at hrt
          have hTk := hD.take n hms
          have htn : (S.take n).length = n := by rw [List.length_take]; omega
          have htl : (S.take n).length ≤ 9223372036854775807 := by omega
          have hTk : Byt w (.slice (some ⟨b, o2, none⟩) (S.take n).length c2) (S.take n) := by rw [htn]; exact hTk
          repeat' (first | refine cseq ?_ | refine rtext ?_ | refine ctrue rfl ?_ | refine cskip ?_ | refine cblk ?_ | refine cret ?_ | refine tret ?_ | refine bret ?_ | refine jnil ?_ | (first | refine jmv rfl rfl rfl ?_ | refine jas_ rfl rfl rfl ?_ | (show Jo _ (.binOp _ _ _ _ _); first | (show Jo (some 42) _; refine jy (yadd (c := (((S.take n).length : Nat) : Int)) rfl rfl ((i64_in (by omega) (by omega)).trans (by omega))) rfl rfl ?_) | refine jy (ygeq rfl rfl (by (exact decide_eq_true (by omega)))) rfl rfl ?_) | (show Jo _ (.call _); ((show Jo (some 44) (.call _); refine jcallq bo126 rfl rfl rfl (quietC fun w' hw' => trimF_calls (hT.below (hw'.2.below (fun k _ h => h) (Nat.le_refl _))) (hTk.below (hw'.2.below (fun _ _ h => h) (Nat.le_refl _)) (Nat.le_refl _)) htl) ?_))) | (show Jo (some 36) _; refine jy (yat (p' := ⟨b, o2 + (n - 1), none⟩) rfl rfl und59 sz5 (by omega) (by omega) (by rw [add_at]; congr 1; omega)) rfl rfl ?_) | (show Jo (some 37) _; refine jy (yloadw rfl hdcell (fun h => h) one5) rfl rfl ?_) | (show Jo _ (.slice 62 _ none (some _) none); refine jy (yslH (n := (S.take n).length) rfl rfl und59 sz5 rfl (by omega)) rfl rfl ?_)))
          exact post _ _ _ rfl (fun W hW => by rw [hrc, hrt]; exact sl_cut (by have := (hDW W hW).take n hms; rw [htn]; exact this))
        · cases hds : isSp d.toNat
          · rw [hds, if_neg (by simp)] at hdsp
            have hrt := trE_at hm1 hms hall hd hds
            rw [if_neg hd128] at hrt
            have hTk := hD.take n hms
            have htn : (S.take n).length = n := by rw [List.length_take]; omega
            have hTk : Byt w (.slice (some ⟨b, o2, none⟩) (S.take n).length c2) (S.take n) := by rw [htn]; exact hTk
            repeat' (first | refine cseq ?_ | refine rtext ?_ | refine ctrue rfl ?_ | refine cfalse rfl ?_ | refine cskip ?_ | refine cblk ?_ | refine cret ?_ | refine tret ?_ | refine bret ?_ | refine jnil ?_ | (first | refine jmv rfl rfl rfl ?_ | refine jas_ rfl rfl rfl ?_ | (show Jo _ (.binOp _ _ _ _ _); first | (show Jo (some 51) _; refine jy (yadd (c := (((S.take n).length : Nat) : Int)) rfl rfl ((i64_in (by omega) (by omega)).trans (by omega))) rfl rfl ?_) | refine jy (yeql rfl rfl (by (exact decide_eq_true (by omega)))) rfl rfl ?_ | refine jy (ygeq rfl rfl (by first | exact decide_eq_true (by omega) | exact decide_eq_false (by omega))) rfl rfl ?_) | (show Jo (some 36) _; refine jy (yat (p' := ⟨b, o2 + (n - 1), none⟩) rfl rfl und59 sz5 (by omega) (by omega) (by rw [add_at]; congr 1; omega)) rfl rfl ?_) | (show Jo (some 37) _; refine jy (yloadw rfl hdcell (fun h => h) one5) rfl rfl ?_) | (show Jo (some 46) _; refine jy (yatA (p' := ⟨0, d.toNat, none⟩) rfl rfl und152 sz5 (by omega) (by omega) (by rw [add_at]; congr 1; omega)) rfl rfl ?_) | (show Jo (some 47) _; refine jy (yloadw rfl hdsp (fun h => h) one5) rfl rfl ?_) | (show Jo _ (.slice 62 _ none (some _) none); refine jy (yslH (n := (S.take n).length) rfl rfl und59 sz5 rfl (by omega)) rfl rfl ?_)))
            exact post _ _ _ rfl (fun W hW => by rw [hrc, hrt]; exact .inl (by have := (hDW W hW).take n hms; rw [htn]; exact this))
          · rw [hds, if_pos rfl] at hdsp
            have hn1 : n ≠ 1 := fun h => by
              rw [h] at hd
              rw [hS0] at hd
              cases hd
              rw [hsp] at hds
              cases hds
            have hk := hK2 (n - 1) (n - 1) (by omega) ⟨rfl, by omega, by omega, fun j x hj hx => by
              rcases Nat.lt_or_ge j n with h | h
              · rw [show j = n - 1 by omega, hd] at hx
                cases hx
                exact hds
              · exact hall j x h hx⟩
            repeat' (first | refine cseq ?_ | refine rtext ?_ | refine ctrue rfl ?_ | refine cfalse rfl ?_ | refine cskip ?_ | refine cblk ?_ | refine tnorm ?_ | refine jnil ?_ | (first | refine jmv rfl rfl rfl ?_ | refine jas_ rfl rfl rfl ?_ | (show Jo _ (.binOp _ _ _ _ _); first | (show Jo (some 33) _; refine jy (ysub (c := ((n - 1 : Nat) : Int) - 1) rfl rfl ((i64_in (by omega) (by omega)).trans (by omega))) rfl rfl ?_) | refine jy (yeql rfl rfl (by (exact decide_eq_false (by omega)))) rfl rfl ?_ | refine jy (ygeq rfl rfl (by first | exact decide_eq_true (by omega) | exact decide_eq_false (by omega))) rfl rfl ?_) | (show Jo (some 36) _; refine jy (yat (p' := ⟨b, o2 + (n - 1), none⟩) rfl rfl und59 sz5 (by omega) (by omega) (by rw [add_at]; congr 1; omega)) rfl rfl ?_) | (show Jo (some 37) _; refine jy (yloadw rfl hdcell (fun h => h) one5) rfl rfl ?_) | (show Jo (some 46) _; refine jy (yatA (p' := ⟨0, d.toNat, none⟩) rfl rfl und152 sz5 (by omega) (by omega) (by rw [add_at]; congr 1; omega)) rfl rfl ?_) | (show Jo (some 47) _; refine jy (yloadw rfl hdsp (fun h => h) one5) rfl rfl ?_)))
            exact fin hk ⟨rfl, rfl, trivial⟩ rfl
      · rw [hsp, if_pos rfl] at hrc hsc
        have hk := hK (l.length - (i + 1)) (i + 1) (by omega) ⟨rfl, by omega, hrc⟩
        repeat' (first | refine cseq ?_ | refine rtext ?_ | refine ctrue rfl ?_ | refine cfalse rfl ?_ | refine cskip ?_ | refine cblk ?_ | refine cexit ?_ | refine tnorm ?_ | refine jnil ?_ | (first | refine jmv rfl rfl rfl ?_ | refine jas_ rfl rfl rfl ?_ | (show Jo _ (.binOp _ _ _ _ _); first | (show Jo (some 53) _; refine jy (yadd (c := ((i + 1 : Nat) : Int)) rfl rfl ((i64_in (by omega) (by omega)).trans (by omega))) rfl rfl ?_) | (show Jo _ (.binOp .neq _ _ _ _); refine jy (yneq rfl rfl (by (exact decide_eq_true (by omega)))) rfl rfl ?_) | refine jy (ylss rfl rfl (by (exact decide_eq_true (by omega)))) rfl rfl ?_ | refine jy (ygeq rfl rfl (by (exact decide_eq_false (by omega)))) rfl rfl ?_) | (show Jo (some 12) _; refine jy (yat (p' := ⟨b, o + i, none⟩) rfl rfl und59 sz5 (by omega) (by omega) (by rw [add_at]; congr 1; omega)) rfl rfl ?_) | (show Jo (some 13) _; refine jy (yloadw rfl hc (fun h => h) one5) rfl rfl ?_) | (show Jo (some 21) _; refine jy (yatA (p' := ⟨0, ch.toNat, none⟩) rfl rfl und152 sz5 (by omega) (by omega) (by rw [add_at]; congr 1; omega)) rfl rfl ?_) | (show Jo (some 22) _; refine jy (yloadw rfl hsc (fun h => h) one5) rfl rfl ?_)))
        exact fin hk ⟨rfl, rfl, rfl, rfl, trivial⟩ rfl
  · have : l.drop i = [] := List.drop_eq_nil_of_le (by omega)
    rw [this] at hri
    repeat' (first | refine cseq ?_ | refine rtext ?_ | refine cfalse rfl ?_ | refine cret ?_ | refine cexit ?_ | refine jnil ?_ | (first | refine jas_ rfl rfl rfl ?_ | (show Jo _ (.binOp _ _ _ _ _); refine jy (ylss rfl rfl (by (exact decide_eq_false (by omega)))) rfl rfl ?_)))
    exact post _ _ _ rfl (fun W _ => .inr ⟨hri, rfl⟩)
end Go.Proofs.YtkehggbmpdacpabGreatDoor.Pg
