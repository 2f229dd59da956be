/- The page laws: texts that all of them use, joined (part 3): Pg4, Pg5, Pg6, Pg7, Pg8, Pg9. -/
import Derived.Test.YtkehggbmpdacpabGreatDoorKp2
set_option maxRecDepth 100000
set_option linter.unusedVariables false
set_option linter.unusedSimpArgs false
set_option linter.unusedSectionVars false
namespace Go.Proofs.YtkehggbmpdacpabGreatDoor.Pg
open Go.Rx hiding bt
open Go.RowKit Go.Proofs.YtkehggbmpdacpabGreatDoor.Dec0 Go.Proofs.YtkehggbmpdacpabGreatDoor.Lex0
theorem bo112 : bodyB Tryz.prog 90 = true := by kernel_rfl
theorem bo130 : bodyB Tryz.prog 108 = true := by kernel_rfl
theorem bo113 : bodyB Tryz.prog 91 = true := by kernel_rfl
theorem bo131 : bodyB Tryz.prog 109 = true := by kernel_rfl
theorem bo144 : bodyB Tryz.prog 122 = true := by kernel_rfl
theorem bo186 : bodyB Tryz.prog 164 = true := by kernel_rfl
theorem und156 : Tryz.prog.underlying 133 = some (.slice 21) := by kernel_rfl
theorem sz21 : szB Tryz.prog 21 1 = true := by kernel_rfl
theorem gr156 : growB Tryz.prog 133 21 1 4 = true := by kernel_rfl
theorem one21 : oneB Tryz.prog 21 = true := by kernel_rfl
theorem co171 : Tryz.prog.concrete 149 = true := by kernel_rfl
theorem bu173 (s : ByteArray) : Tryz.prog.built 151 [(0, .string s)] = some [.string s].toArray := by kernel_rfl
theorem emitString_calls {X : Cx} {H : Hd} {E : Mem} (hX : Ok X H) (l : LS) (q : RS) (hq : QOk X q) (hl : l.its = q.val) (hn : q.n + 1 < 1000000000000) (t : Nat) : ∀ w, Cl X (lB H l :: iB H :: qB q :: E) w → Calls Tryz.prog 163 #[pL H, .int .i64 t] w (EmitR X H E l q [{ mk t l.start l.pos with str := true }]) := by
  intro w hw
  refine enterC 23 hw Tryz.func163 rfl rfl (vs := [pL H, .int .i64 t]) rfl ?_
  replace hX := hX.sub hw 23
  replace hq := hq.sub 23 w
  conv => arg 2; arg 2; whnf
  repeat' (first | (show PJ _ (Code.wp _ _ _) _ _; first | refine cseq ?_ | refine rtext ?_ | (show PJ _ (Code.wp _ (Code.region 0 _ true) _) _ _; refine rtail 11 mixed (by kernel_rfl) ?_)) | (show PJ _ (wpList _ _ _ _) _ _; refine jlist ?_) | refine jnil ?_ | (first | refine jmv rfl rfl rfl ?_ | refine jy (ynil rfl) rfl rfl ?_ | (show Jo _ (.fieldAddr _ _ _); refine jy (yfield rfl (by first | exact fb110_3 | exact fb110_4) rfl) rfl rfl ?_) | (show Jo _ (.load _ _); refine jy (yload (i := 0) rfl rfl rfl one101) rfl rfl ?_) | (show Jo _ (.store _ _ _); refine jstore (i := 0) rfl rfl rfl rfl rfl si3 hX.mL ?_) | (show Jo _ (.call _); ((show Jo (some 15) (.call _); refine jcall (ι := RS) (vs := [pL H, .agg (itC t .nilIface l.start l.pos (.slice none 0 0) 0 true).toArray]) (v := fun _ => .tuple #[]) (m' := fun q' => lB H { l with its := q'.val } :: iB H :: qB q' :: E) (fun q' => QOk _ q' ∧ q'.ics = q.ics ++ itC t .nilIface l.start l.pos (.slice none 0 0) (fbN H.s l.start) true ∧ q'.n = q.n + 1) bo129 rfl rfl rfl (append_calls hX l q hq hl (by omega) (posIn0 _ _) rfl rfl) (fun q1 hq1 => ?_); obtain ⟨hq1, hc1, hn1⟩ := hq1))) | (show Jo _ (.build 78 _); refine jy (ybuild rfl (bu88s _ _ _)) rfl rfl ?_)))
  exact end0 rfl rfl (fun w' hw' => ⟨q1, rfl, hw.up hw', QOk.up hw hq1, by rw [hc1]; simp [itmC, mk], by rw [hn1]; rfl⟩)
theorem newErr_calls {X : Cx} {m : Mem} (s : ByteArray) : ∀ w, Cl X m w → Calls Tryz.prog 108 #[.string s] w fun e w' => ∃ v : Value, e = .returned (.iface 149 v) ∧ Cl X m w' ∧ True := by
  intro w hw
  refine enterC 7 hw Tryz.func108 rfl rfl (vs := [.string s]) rfl ?_
  conv => arg 2; arg 2; whnf
  repeat' (first | refine cseq ?_ | refine rtext ?_ | refine cret ?_ | refine jnil ?_ | (first | refine jmv rfl rfl rfl ?_ | refine jas_ rfl rfl rfl ?_ | (show Jo _ (.build 151 _); refine jy (ybuild rfl (bu173 _)) rfl rfl ?_) | (show Jo _ (.box 151 _); refine jbox (c := [.string s]) rfl rfl rfl (fun gb hTb => ?_)) | (show Jo _ (.makeInterface 149 _); refine jy (ymkI rfl co171) rfl rfl ?_)))
  exact ret1 rfl rfl rfl (fun w' hw' => ⟨_, rfl, (hw.up hw').less (List.sublist_cons_self _ _), trivial⟩)
def ErrR (X : Cx) (H : Hd) (E : Mem) (l : LS) (q : RS) (e : Ending) (w' : World) : Prop := ∃ (q' : RS) (ev : Value), e = .returned .nilFunc ∧ Cl X (lB H { l with its := q'.val } :: iB H :: qB q' :: E) w' ∧ QOk X q' ∧ q'.ics = q.ics ++ itC 0 (.iface 149 ev) l.start l.pos (.slice none 0 0) (fbN H.s l.start) false ∧ q'.n = q.n + 1
theorem errorf_calls {X : Cx} {H : Hd} {E : Mem} (hX : Ok X H) (l : LS) (q : RS) (hq : QOk X q) (hl : l.its = q.val) (hn : q.n + 1 < 1000000000000) (s : ByteArray) (v : Value) : ∀ w, Cl X (lB H l :: iB H :: qB q :: E) w → Calls Tryz.prog 90 #[pL H, .string s, v] w (ErrR X H E l q) := by
  intro w hw
  refine enterC 20 hw Tryz.func90 rfl rfl (vs := [pL H, .string s, v]) rfl ?_
  replace hX := hX.sub hw 20
  replace hq := hq.sub 20 w
  conv => arg 2; arg 2; whnf
  repeat' (first | first | (show PJ _ (Code.wp _ _ _) _ _; first | refine cseq ?_ | refine rtext ?_ | refine cret ?_ | (show PJ _ (Code.wp _ (Code.region 1 _ true) _) _ _; refine ranyT 12 [lB H l] mixed ?_)) | refine jnil ?_ | (first | refine jas_ rfl rfl rfl ?_ | (show Jo _ (.call _); first | (show Jo (some 9) (.call _); refine jcall (ι := Value) (v := fun v => .iface 149 v) (m' := fun _ => lB H l :: iB H :: qB q :: E) (fun _ => True) bo130 rfl rfl rfl (newErr_calls s) (fun ev _ => ?_)) | (show Jo (some 19) (.call _); refine jcall (ι := RS) (vs := [pL H, .agg (itC 0 (.iface 149 ev) l.start l.pos (.slice none 0 0) 0 false).toArray]) (v := fun _ => .tuple #[]) (m' := fun q' => lB H { l with its := q'.val } :: iB H :: qB q' :: E) (fun q' => QOk _ q' ∧ q'.ics = q.ics ++ itC 0 (.iface 149 ev) l.start l.pos (.slice none 0 0) (fbN H.s l.start) false ∧ q'.n = q.n + 1) bo129 rfl rfl rfl (append_calls hX l q hq hl (by omega) (posIn0 _ _) rfl rfl) (fun q1 hq1 => ?_); obtain ⟨hq1, hc1, hn1⟩ := hq1))) | first | (show JT _ _ _ _ _ _ [] _ _; refine jtnil ?_) | (first | (show JTo _ (.move _); refine jty (ymove rfl) rfl rfl ?_) | (show JTo _ (.nilCheck _); refine jty (ynil rfl) rfl rfl ?_) | (show JTo _ (.fieldAddr _ _ _); refine jty (yfield rfl (by first | exact fb110_3 | exact fb110_4) rfl) rfl rfl ?_) | (show JTo _ (.load _ _); refine jty (yload (i := 0) rfl rfl rfl one101) rfl rfl ?_) | (show JTo _ (.build 78 _); refine jty (ybuild rfl (bu88e _ _ _ _ _)) rfl rfl ?_)) | first | (show PJ _ (WKeep _ _ _) _ _; refine jas (fun _ h => h.less (by repeat (first | exact List.nil_sublist _ | refine List.Sublist.cons_cons _ ?_))) ?_) | (show PJ _ (WIf _ _ _) _ _; refine jaw ?_) | (show PJ _ (WAnyT _ _ _ _ _ _ _ _) _ _; first | refine jaqT (n := 12) (g' := 3) (D := []) [0, 1, 3, 4, 5, 6, 7, 8, 9, 10] rfl (fun _ h => h.less (by repeat (first | exact List.nil_sublist _ | refine List.Sublist.cons_cons _ ?_))) (by kernel_rfl) (by kernel_rfl) (by kernel_rfl) (by kernel_rfl) (by kernel_rfl) rfl (fun _ d _ _ _ h => by cases d <;> exact h) rfl ?_ | refine ja1T (n := 12) (g' := 2) (D := [0, 1, 3, 4, 5, 6, 7, 8, 9, 10]) 2 rfl rfl (by kernel_rfl) (by kernel_rfl) rfl ?_ | refine jaqT (n := 12) (g' := 1) (D := [0, 1, 3, 4, 5, 6, 7, 8, 9, 10, 2]) [11] rfl (fun _ h => h.less (by repeat (first | exact List.nil_sublist _ | refine List.Sublist.cons_cons _ ?_))) (by kernel_rfl) (by kernel_rfl) (by kernel_rfl) (by kernel_rfl) (by kernel_rfl) rfl (fun _ d _ _ _ h => by cases d <;> exact h) rfl ?_ | refine jfullT (D := [0, 1, 3, 4, 5, 6, 7, 8, 9, 10, 2, 11]) (by kernel_rfl) ?_) | (show PJ _ (WAny _ _ _ _ _ _ _) _ _; first | refine ja1 (g' := 0) (D := [0, 1, 3, 4, 5, 6, 7, 8, 9, 10, 2, 11]) 12 rfl rfl (by kernel_rfl) rfl ?_ | refine jadone rfl (by kernel_rfl) ?_))
  exact ret1 rfl rfl rfl (fun w' hw' => ⟨q1, ev, rfl, hw.up hw', QOk.up hw hq1, hc1, hn1⟩)
theorem isSpI_cons (c : UInt8) (r : T) : isSpI (rn (c :: r)) = isSp c.toNat := by
  rcases rn_cons c r with ⟨h1, h2, _⟩ | ⟨h1, h2⟩
  · rw [h2]
    unfold isSpI isSp
    rw [Bool.eq_iff_iff]
    simp only [Bool.or_eq_true, beq_iff_eq]
    omega
  · have e1 : isSpI (rn (c :: r)) = false := by
      unfold isSpI
      simp only [Bool.or_eq_false_iff, beq_eq_false_iff_ne]
      omega
    have e2 : isSp c.toNat = false := by
      unfold isSp
      simp only [Bool.or_eq_false_iff, beq_eq_false_iff_ne]
      omega
    rw [e1, e2]
theorem isSp_wd {c : UInt8} {r : T} (h : isSp c.toNat = true) : wd (c :: r) = 1 := by
  rcases rn_cons c r with ⟨_, _, h3⟩ | ⟨h1, _⟩
  · exact h3
  · unfold isSp at h
    simp only [Bool.or_eq_true, beq_iff_eq] at h
    omega
theorem isSpI_nil : isSpI (rn []) = false := rfl
theorem spN_step (l : T) : spN l = if isSpI (rn l) = true then spN (l.drop (wd l)) + wd l else 0 := by
  cases l with
  | nil => rfl
  | cons c r =>
    rw [isSpI_cons]
    conv => lhs; unfold spN
    split
    · rename_i h
      rw [isSp_wd h]
      rfl
    · rfl
theorem toSpN_drop : ∀ (k : Nat) (l : T), k ≤ l.length → (∀ j, j < k → 128 ≤ gb l j) → toSpN l = k + toSpN (l.drop k) := by
  intro k
  induction k with
  | zero => intro l _ _; simp
  | succ k ih =>
    intro l hl hb
    cases l with
    | nil => simp at hl
    | cons c r =>
      have h0 : 128 ≤ c.toNat := hb 0 (Nat.succ_pos k)
      have hs : isSp c.toNat = false := by
        unfold isSp
        simp only [Bool.or_eq_false_iff, beq_eq_false_iff_ne]
        omega
      have := ih r (by simpa using hl) (fun j hj => hb (j + 1) (by omega))
      conv => lhs; unfold toSpN
      rw [if_neg (by rw [hs]; simp), this]
      simp only [List.drop_succ_cons]
      omega
theorem toSpN_step (l : T) : toSpN l = if l = [] ∨ isSpI (rn l) = true then 0 else toSpN (l.drop (wd l)) + wd l := by
  cases l with
  | nil => rfl
  | cons c r =>
    rw [isSpI_cons]
    by_cases h : isSp c.toNat = true
    · rw [if_pos (.inr h)]
      conv => lhs; unfold toSpN
      rw [if_pos h]
    · rw [if_neg (by simp [h])]
      rcases rn_cons c r with ⟨h1, h2, h3⟩ | ⟨h1, h2⟩
      · rw [h3]
        conv => lhs; unfold toSpN
        rw [if_neg h]
        rfl
      · have hw : wd (c :: r) = (dec (c :: r)).2 := by unfold wd; rw [if_neg (by simp)]
        have hd := dec_wide (l := c :: r) h1
        rw [hw, toSpN_drop (dec (c :: r)).2 (c :: r) hd.2.1 hd.2.2]
        omega
def at_ (l : LS) (p w : Nat) : LS := { l with pos := p, wd := w }
theorem drop_wd (s : T) (p : Nat) : (s.drop p).drop (wd (s.drop p)) = s.drop (p + wd (s.drop p)) := by rw [List.drop_drop]
theorem consumeSpace_calls {X : Cx} {H : Hd} {E : Mem} (hX : Ok X H) (l : LS) (hp : l.pos ≤ H.s.length) : ∀ w, Cl X (lB H l :: iB H :: E) w → Calls Tryz.prog 122 #[pL H] w fun e w' => ∃ W, e = .returned (.tuple #[]) ∧ Cl X (lB H (at_ l (l.pos + spN (H.s.drop l.pos)) W) :: iB H :: E) w' := by
  intro w hw
  refine enterC 14 hw Tryz.func122 rfl rfl (vs := [pL H]) rfl ?_
  replace hX := hX.sub hw 14
  conv => arg 2; arg 2; whnf
  repeat' (((show PJ _ (Code.wp _ _ _) _ _; (refine cblk ?_))))
  refine fin (f' := [(0, pL H)]) (m' := lB H (at_ l l.pos l.wd) :: iB H :: E)
    (cloop (ι := Nat × Nat) (fun _ => [(0, pL H)]) (fun q => lB H (at_ l q.1 q.2) :: iB H :: E) (fun n q => n = H.s.length - q.1 ∧ q.1 ≤ H.s.length ∧ q.1 + spN (H.s.drop q.1) = l.pos + spN (H.s.drop l.pos)) (H.s.length - l.pos) (l.pos, l.wd) ⟨rfl, hp, rfl⟩ ?_) ⟨rfl, trivial⟩ rfl
  rintro n ⟨p, W⟩ ⟨rfl, hp, hsp⟩ K hK
  dsimp only at hp hsp ⊢
  have hwl := wd_rest hp
  have hst := spN_step (H.s.drop p)
  by_cases hB : isSpI (rn (H.s.drop p)) = true
  · rw [if_pos hB, drop_wd] at hst
    have hne : H.s.drop p ≠ [] := fun h => by rw [h, isSpI_nil] at hB; cases hB
    have hn1 : rn (H.s.drop p) ≠ -1 := fun h => hne (rn_neg.1 h)
    have hw1 := wd_pos hne
    repeat' (first | refine cseq ?_ | refine rtext ?_ | refine cfalse rfl ?_ | refine cskip ?_ | refine cblk ?_ | refine tnorm ?_ | refine bnorm ?_ | refine jnil ?_ | (first | refine jmv rfl rfl rfl ?_ | refine jas_ rfl rfl rfl ?_ | (show Jo _ (.binOp _ _ _ _ _); refine jy (yeql rfl rfl (by (exact decide_eq_false (by omega)))) rfl rfl ?_) | (show Jo _ (.pick _ _ _); refine jy (ypick0 rfl rfl) rfl rfl ?_) | refine jy (ynot rfl rfl) rfl rfl ?_ | (show Jo _ (.call _); first | (show Jo _ (.call ⟨.value (.func 73), _, _⟩); refine jcall0 (v := .int .i32 (rn (H.s.drop p))) (lB H (at_ l (p + wd (H.s.drop p)) (wd (H.s.drop p))) :: iB H :: E) bo93 rfl rfl rfl (next_calls hX (at_ l p W) hp) ?_) | (show Jo _ (.call ⟨.value (.func 79), _, _⟩); refine jcallq bo99 rfl rfl rfl (quietC fun w' hw' => (space_calls _).mono fun e w'' h => ⟨h.1.trans (congrArg (fun b => Ending.returned (Value.bool b)) hB), h.2⟩) ?_))))
    exact fin (hK (H.s.length - (p + wd (H.s.drop p))) (p + wd (H.s.drop p), wd (H.s.drop p)) (by omega) ⟨rfl, hwl, by dsimp only; omega⟩) ⟨rfl, trivial⟩ rfl
  · replace hB : isSpI (rn (H.s.drop p)) = false := Bool.eq_false_iff.2 hB
    rw [hB, if_neg (by simp)] at hst
    rcases Decidable.em (rn (H.s.drop p) = -1) with hn1 | hn1
    all_goals
      repeat' (first | refine cseq ?_ | refine rtext ?_ | refine ctrue rfl ?_ | refine cblk ?_ | refine cret ?_ | refine tret ?_ | refine bret ?_ | refine jnil ?_ | (first | refine js rfl rfl ?_ | refine jmv rfl rfl rfl ?_ | refine jas_ rfl rfl rfl ?_ | (show Jo _ (.binOp _ _ _ _ _); (refine jy (yeql rfl rfl (by first | exact decide_eq_true (by omega) | exact decide_eq_false (by omega))) rfl rfl ?_)) | (show Jo _ (.pick _ _ _); first | refine jy (ypick1 rfl rfl) rfl rfl ?_ | refine jy (ypick0 rfl rfl) rfl rfl ?_) | refine jy (ynot rfl rfl) rfl rfl ?_ | (show Jo _ (.call _); first | (show Jo _ (.call ⟨.value (.func 73), _, _⟩); refine jcall0 (v := .int .i32 (rn (H.s.drop p))) (lB H (at_ l (p + wd (H.s.drop p)) (wd (H.s.drop p))) :: iB H :: E) bo93 rfl rfl rfl (next_calls hX (at_ l p W) hp) ?_) | (show Jo _ (.call ⟨.value (.func 95), _, _⟩); refine jcall0 (lB H (at_ l (p + wd (H.s.drop p) - wd (H.s.drop p)) (wd (H.s.drop p))) :: iB H :: E) bo117 rfl rfl rfl (backup_calls hX (at_ l (p + wd (H.s.drop p)) (wd (H.s.drop p))) hwl (Nat.le_add_left _ _)) ?_) | (show Jo _ (.call ⟨.value (.func 79), _, _⟩); refine jcallq bo99 rfl rfl rfl (quietC fun w' hw' => (space_calls _).mono fun e w'' h => ⟨h.1.trans (congrArg (fun b => Ending.returned (Value.bool b)) hB), h.2⟩) ?_))))
      refine ret0 rfl rfl (fun w' hw' => ⟨wd (H.s.drop p), rfl, ?_⟩)
      have h1 := hw.up hw'
      rw [Nat.add_sub_cancel] at h1
      rw [show l.pos + spN (H.s.drop l.pos) = p by omega]
      exact h1
theorem consumeToSpace_calls {X : Cx} {H : Hd} {E : Mem} (hX : Ok X H) (l : LS) (hp : l.pos ≤ H.s.length) : ∀ w, Cl X (lB H l :: iB H :: E) w → Calls Tryz.prog 164 #[pL H] w fun e w' => ∃ W, e = .returned (.tuple #[]) ∧ Cl X (lB H (at_ l (l.pos + toSpN (H.s.drop l.pos)) W) :: iB H :: E) w' := by
  intro w hw
  refine enterC 13 hw Tryz.func164 rfl rfl (vs := [pL H]) rfl ?_
  replace hX := hX.sub hw 13
  conv => arg 2; arg 2; whnf
  repeat' (((show PJ _ (Code.wp _ _ _) _ _; (refine cblk ?_))))
  refine fin (f' := [(0, pL H)]) (m' := lB H (at_ l l.pos l.wd) :: iB H :: E)
    (cloop (ι := Nat × Nat) (fun _ => [(0, pL H)]) (fun q => lB H (at_ l q.1 q.2) :: iB H :: E) (fun n q => n = H.s.length - q.1 ∧ q.1 ≤ H.s.length ∧ q.1 + toSpN (H.s.drop q.1) = l.pos + toSpN (H.s.drop l.pos)) (H.s.length - l.pos) (l.pos, l.wd) ⟨rfl, hp, rfl⟩ ?_) ⟨rfl, trivial⟩ rfl
  rintro n ⟨p, W⟩ ⟨rfl, hp, hsp⟩ K hK
  dsimp only at hp hsp ⊢
  have hwl := wd_rest hp
  have hst := toSpN_step (H.s.drop p)
  by_cases hc : H.s.drop p = [] ∨ isSpI (rn (H.s.drop p)) = true
  · rw [if_pos hc] at hst
    have hc' : rn (H.s.drop p) = -1 ∨ (rn (H.s.drop p) ≠ -1 ∧ isSpI (rn (H.s.drop p)) = true) := by
      rcases Decidable.em (H.s.drop p = []) with h | h
      · exact .inl (rn_neg.2 h)
      · exact .inr ⟨fun c => h (rn_neg.1 c), hc.resolve_left h⟩
    rcases hc' with hn1 | ⟨hn1, hB⟩
    all_goals
      repeat' (first | refine cseq ?_ | refine rtext ?_ | refine ctrue rfl ?_ | refine cblk ?_ | refine cret ?_ | refine tret ?_ | refine bret ?_ | refine jnil ?_ | (first | refine js rfl rfl ?_ | refine jmv rfl rfl rfl ?_ | refine jas_ rfl rfl rfl ?_ | (show Jo _ (.binOp _ _ _ _ _); (refine jy (yeql rfl rfl (by first | exact decide_eq_true (by omega) | exact decide_eq_false (by omega))) rfl rfl ?_)) | (show Jo _ (.pick _ _ _); first | refine jy (ypick1 rfl rfl) rfl rfl ?_ | refine jy (ypick0 rfl rfl) rfl rfl ?_) | (show Jo _ (.call _); first | (show Jo _ (.call ⟨.value (.func 73), _, _⟩); refine jcall0 (v := .int .i32 (rn (H.s.drop p))) (lB H (at_ l (p + wd (H.s.drop p)) (wd (H.s.drop p))) :: iB H :: E) bo93 rfl rfl rfl (next_calls hX (at_ l p W) hp) ?_) | (show Jo _ (.call ⟨.value (.func 95), _, _⟩); refine jcall0 (lB H (at_ l (p + wd (H.s.drop p) - wd (H.s.drop p)) (wd (H.s.drop p))) :: iB H :: E) bo117 rfl rfl rfl (backup_calls hX (at_ l (p + wd (H.s.drop p)) (wd (H.s.drop p))) hwl (Nat.le_add_left _ _)) ?_) | (show Jo _ (.call ⟨.value (.func 79), _, _⟩); refine jcallq bo99 rfl rfl rfl (quietC fun w' hw' => (space_calls _).mono fun e w'' h => ⟨h.1.trans (congrArg (fun b => Ending.returned (Value.bool b)) hB), h.2⟩) ?_))))
      refine ret0 rfl rfl (fun w' hw' => ⟨wd (H.s.drop p), rfl, ?_⟩)
      have h1 := hw.up hw'
      rw [Nat.add_sub_cancel] at h1
      rw [show l.pos + toSpN (H.s.drop l.pos) = p by omega]
      exact h1
  · rw [if_neg hc, drop_wd] at hst
    have hne : H.s.drop p ≠ [] := fun h => hc (.inl h)
    have hB : isSpI (rn (H.s.drop p)) = false := Bool.eq_false_iff.2 (fun h => hc (.inr h))
    have hn1 : rn (H.s.drop p) ≠ -1 := fun h => hne (rn_neg.1 h)
    have hw1 := wd_pos hne
    repeat' (first | refine cseq ?_ | refine rtext ?_ | refine cfalse rfl ?_ | refine cskip ?_ | refine cblk ?_ | refine tnorm ?_ | refine bnorm ?_ | refine jnil ?_ | (first | refine jmv rfl rfl rfl ?_ | refine jas_ rfl rfl rfl ?_ | (show Jo _ (.binOp _ _ _ _ _); refine jy (yeql rfl rfl (by (exact decide_eq_false (by omega)))) rfl rfl ?_) | (show Jo _ (.pick _ _ _); refine jy (ypick0 rfl rfl) rfl rfl ?_) | (show Jo _ (.call _); first | (show Jo _ (.call ⟨.value (.func 73), _, _⟩); refine jcall0 (v := .int .i32 (rn (H.s.drop p))) (lB H (at_ l (p + wd (H.s.drop p)) (wd (H.s.drop p))) :: iB H :: E) bo93 rfl rfl rfl (next_calls hX (at_ l p W) hp) ?_) | (show Jo _ (.call ⟨.value (.func 79), _, _⟩); refine jcallq bo99 rfl rfl rfl (quietC fun w' hw' => (space_calls _).mono fun e w'' h => ⟨h.1.trans (congrArg (fun b => Ending.returned (Value.bool b)) hB), h.2⟩) ?_))))
    exact fin (hK (H.s.length - (p + wd (H.s.drop p))) (p + wd (H.s.drop p), wd (H.s.drop p)) (by omega) ⟨rfl, hwl, by dsimp only; omega⟩) ⟨rfl, trivial⟩ rfl
def cr1 (l : T) : Nat := if rn l = 13 then 1 else 0
def cr2 (l : T) : Nat := if rn l = 10 then 1 else 0
theorem rn_lit (c k : UInt8) (r : T) (hk : k.toNat < 128) : (rn (c :: r) = (k.toNat : Int)) = (c = k) := propext ⟨fun h => UInt8.toNat_inj.1 ((rn_eq hk).1 h), fun h => h ▸ rn_ascii (h ▸ hk)⟩
theorem crlf_eq (l : T) : crlf l = cr1 l + cr2 (l.drop (cr1 l)) := by
  have h13 : ∀ (c : UInt8) (r : T), (rn (c :: r) = 13) = (c = 13) := fun c r => rn_lit c 13 r (by decide)
  have h10 : ∀ (c : UInt8) (r : T), (rn (c :: r) = 10) = (c = 10) := fun c r => rn_lit c 10 r (by decide)
  cases l with
  | nil => rfl
  | cons c r =>
    unfold cr1
    simp only [h13]
    by_cases h : c = 13
    · subst h
      rw [if_pos rfl]
      cases r with
      | nil => rfl
      | cons d r =>
        unfold cr2
        simp only [List.drop_succ_cons, List.drop_zero, h10]
        by_cases h2 : d = 10
        · subst h2; rfl
        · rw [if_neg h2]
          unfold crlf
          split <;> simp_all
    · rw [if_neg h]
      unfold cr2
      simp only [List.drop_zero, h10]
      by_cases h2 : c = 10
      · subst h2; rfl
      · rw [if_neg h2]
        unfold crlf
        split <;> simp_all
theorem wd_rn {l : T} {k : Nat} (hk : k < 128) (h : rn l = (k : Int)) : wd l = 1 := by
  cases l with
  | nil => have h1 : (-1 : Int) = k := h; omega
  | cons c r =>
    rcases rn_cons c r with ⟨_, _, h3⟩ | ⟨_, h2⟩
    · exact h3
    · omega
def cB (g : Nat) : Nat × List Value × Bk := (g, [.int .i32 13, .int .i32 10], .c 21)
theorem crLf_calls {X : Cx} {m : Mem} : ∀ w, Cl X m w → Calls Tryz.prog 109 #[] w fun e w' => ∃ g, e = .returned (.slice (some ⟨g, 0, none⟩) 2 2) ∧ Cl X (cB g :: m) w' ∧ True := by
  intro w hw
  refine enterC 2 hw Tryz.func109 rfl rfl (vs := []) rfl ?_
  conv => arg 2; arg 2; whnf
  repeat' (first | refine cseq ?_ | refine rtext ?_ | refine cret ?_ | refine jnil ?_ | (first | refine jas_ rfl rfl rfl ?_ | (show Jo _ (.buildSlice 133 _ _); refine jlitN (n := 2) (vs := [.int .i32 13, .int .i32 10]) rfl rfl rfl rfl gr156 rfl rfl rfl rfl (fun g hT => ?_))))
  exact ret1 rfl rfl rfl (fun w' hw' => ⟨g, rfl, hw.up hw', trivial⟩)
def crP (r : T) : Nat → Nat
  | 0 => 0
  | 1 => cr1 r
  | _ => crlf r
def crC (r : T) (j : Nat) : Bool := decide (0 < crP r j)
theorem consumeCRLF_calls {X : Cx} {H : Hd} {E : Mem} (hX : Ok X H) (l : LS) (hp : l.pos ≤ H.s.length) : ∀ w, Cl X (lB H l :: iB H :: E) w → Calls Tryz.prog 91 #[pL H] w fun e w' => ∃ W, e = .returned (.bool (decide (0 < crlf (H.s.drop l.pos)))) ∧ Cl X (lB H (at_ l (l.pos + crlf (H.s.drop l.pos)) W) :: iB H :: E) w' := by
  intro w hw
  refine enterC 20 hw Tryz.func91 rfl rfl (vs := [pL H]) rfl ?_
  replace hX := hX.sub hw 20
  conv => arg 2; arg 2; whnf
  have hle : l.pos + cr1 (H.s.drop l.pos) ≤ H.s.length := by
    unfold cr1
    split
    · rename_i h
      have := wd_rest hp
      rw [wd_rn (k := 13) (by decide) h] at this
      exact this
    · exact hp
  have hc2 := crlf_eq (H.s.drop l.pos)
  rw [List.drop_drop] at hc2
  repeat' (first | refine cseq ?_ | refine rtext ?_ | refine cblk ?_ | refine jnil ?_ | (first | refine jmv rfl rfl rfl ?_ | refine jas_ rfl rfl rfl ?_ | (show Jo _ (.call _); first | (show Jo _ (.call ⟨.value (.func 109), _, _⟩); refine jcall (ι := Nat) (v := fun g => .slice (some ⟨g, 0, none⟩) 2 2) (m' := fun g => cB g :: lB H l :: iB H :: E) (fun _ => True) bo131 rfl rfl rfl crLf_calls (fun gc _ => ?_)) | (show Jo _ (.call ⟨.builtin .len, _, _⟩); refine jy (ylenl rfl und156) rfl rfl ?_))))
  refine fin (f' := [(0, pL H), (3, .bool (crC (H.s.drop l.pos) 0)), (6, .slice (some ⟨gc, 0, none⟩) 2 2), (7, .int .i64 (2 : Nat)), (8, .int .i64 (0 : Nat))]) (m' := cB gc :: lB H (at_ l (l.pos + 0) l.wd) :: iB H :: E)
    (cloop (ι := Nat × Nat) (fun q => [(0, pL H), (3, .bool (crC (H.s.drop l.pos) q.1)), (6, .slice (some ⟨gc, 0, none⟩) 2 2), (7, .int .i64 (2 : Nat)), (8, .int .i64 (q.1 : Nat))]) (fun q => cB gc :: lB H (at_ l (l.pos + crP (H.s.drop l.pos) q.1) q.2) :: iB H :: E) (fun n q => n = 2 - q.1 ∧ q.1 ≤ 2) 2 (0, l.wd) ⟨rfl, Nat.zero_le _⟩ ?_) ⟨rfl, rfl, rfl, rfl, rfl, trivial⟩ rfl
  rintro n ⟨j, W⟩ ⟨rfl, hj⟩ K hK
  dsimp only at hj ⊢
  match j, hj with
  | 0, _ =>
    obtain ⟨p, hpd⟩ : ∃ p, p = l.pos := ⟨_, rfl⟩
    have hwl := wd_rest hp
    rw [← hpd] at hp hwl
    have hk := hK 1 (1, wd (H.s.drop p)) (by dsimp only; omega) ⟨rfl, by dsimp only; omega⟩
    dsimp only at hk
    have e0 : l.pos + crP (H.s.drop l.pos) 0 = p := by rw [hpd]; rfl
    have e3 : crC (H.s.drop l.pos) 0 = false := rfl
    have e1 : l.pos + crP (H.s.drop l.pos) 1 = p + cr1 (H.s.drop p) := by rw [hpd]; rfl
    have e2 : crC (H.s.drop l.pos) 1 = decide (0 < cr1 (H.s.drop p)) := by rw [hpd]; rfl
    rw [e1, e2] at hk
    rw [e0, e3]
    by_cases hr : rn (H.s.drop p) = 13
    · have h1 : cr1 (H.s.drop p) = 1 := if_pos hr
      have hw1 := wd_rn (k := 13) (by decide) hr
      rw [hw1] at hwl hk
      rw [h1] at hk
      repeat' (first | refine cseq ?_ | refine rtext ?_ | refine ctrue rfl ?_ | refine cfalse rfl ?_ | refine cskip ?_ | refine cblk ?_ | refine tnorm ?_ | refine jnil ?_ | (first | refine jmv rfl rfl rfl ?_ | (show Jo _ (.load _ _); refine jy (yload (i := 0) rfl rfl rfl one21) rfl rfl ?_) | refine jas_ rfl rfl rfl ?_ | (show Jo _ (.binOp _ _ _ _ _); first | (show Jo _ (.binOp .neq _ _ _ _); refine jy (yneq rfl rfl (by (exact decide_eq_false (by omega)))) rfl rfl ?_) | refine jy (yadd rfl rfl (i64_in (by omega) (by omega))) rfl rfl ?_ | refine jy (ylss rfl rfl (by (exact decide_eq_true (by omega)))) rfl rfl ?_) | (show Jo _ (.call _); ((show Jo _ (.call ⟨.value (.func 73), _, _⟩); refine jcall0 (v := .int .i32 (rn (H.s.drop p))) (cB gc :: lB H (at_ l (p + wd (H.s.drop p)) (wd (H.s.drop p))) :: iB H :: E) bo93 rfl rfl rfl (front_calls [cB gc] (M := [lB H (at_ l p W), iB H]) (M' := [lB H (at_ l (p + wd (H.s.drop p)) (wd (H.s.drop p))), iB H]) (fun w hw => next_calls (E := cB gc :: E) hX (at_ l p W) hp w hw)) ?_))) | (show Jo _ (.indexAddr 133 _ _); refine jy (yat (p' := ⟨gc, 0, none⟩) rfl rfl und156 sz21 (by omega) (by omega) rfl) rfl rfl ?_)))
      rw [hw1]
      exact fin hk ⟨rfl, rfl, rfl, rfl, rfl, trivial⟩ rfl
    · have h1 : cr1 (H.s.drop p) = 0 := if_neg hr
      rw [h1] at hk
      repeat' (first | refine cseq ?_ | refine rtext ?_ | refine ctrue rfl ?_ | refine cskip ?_ | refine cblk ?_ | refine tnorm ?_ | refine jnil ?_ | (first | refine jmv rfl rfl rfl ?_ | (show Jo _ (.load _ _); refine jy (yload (i := 0) rfl rfl rfl one21) rfl rfl ?_) | refine jas_ rfl rfl rfl ?_ | (show Jo _ (.binOp _ _ _ _ _); first | (show Jo _ (.binOp .neq _ _ _ _); refine jy (yneq rfl rfl (by (exact decide_eq_true (by omega)))) rfl rfl ?_) | refine jy (yadd rfl rfl (i64_in (by omega) (by omega))) rfl rfl ?_ | refine jy (ylss rfl rfl (by (exact decide_eq_true (by omega)))) rfl rfl ?_) | (show Jo _ (.call _); first | (show Jo _ (.call ⟨.value (.func 73), _, _⟩); refine jcall0 (v := .int .i32 (rn (H.s.drop p))) (cB gc :: lB H (at_ l (p + wd (H.s.drop p)) (wd (H.s.drop p))) :: iB H :: E) bo93 rfl rfl rfl (front_calls [cB gc] (M := [lB H (at_ l p W), iB H]) (M' := [lB H (at_ l (p + wd (H.s.drop p)) (wd (H.s.drop p))), iB H]) (fun w hw => next_calls (E := cB gc :: E) hX (at_ l p W) hp w hw)) ?_) | (show Jo _ (.call ⟨.value (.func 95), _, _⟩); refine jcall0 (v := .tuple #[]) (cB gc :: lB H (at_ l (p + wd (H.s.drop p) - wd (H.s.drop p)) (wd (H.s.drop p))) :: iB H :: E) bo117 rfl rfl rfl (front_calls [cB gc] (M := [lB H (at_ l (p + wd (H.s.drop p)) (wd (H.s.drop p)))]) (M' := [lB H (at_ l (p + wd (H.s.drop p) - wd (H.s.drop p)) (wd (H.s.drop p)))]) (E := iB H :: E) (fun w hw => backup_calls (E := cB gc :: iB H :: E) hX (at_ l (p + wd (H.s.drop p)) (wd (H.s.drop p))) hwl (Nat.le_add_left _ _) w hw)) ?_)) | (show Jo _ (.indexAddr 133 _ _); refine jy (yat (p' := ⟨gc, 0, none⟩) rfl rfl und156 sz21 (by omega) (by omega) rfl) rfl rfl ?_)))
      rw [Nat.add_sub_cancel]
      exact fin hk ⟨rfl, rfl, rfl, rfl, rfl, trivial⟩ rfl
  | 1, _ =>
    obtain ⟨p, hpd⟩ : ∃ p, p = l.pos + cr1 (H.s.drop l.pos) := ⟨_, rfl⟩
    have hp0 := hp
    replace hp : p ≤ H.s.length := hpd ▸ hle
    have hwl := wd_rest hp
    have hk := hK 0 (2, wd (H.s.drop p)) (by dsimp only; omega) ⟨rfl, by dsimp only; omega⟩
    dsimp only at hk
    have e0 : l.pos + crP (H.s.drop l.pos) 1 = p := by rw [hpd]; rfl
    have e3 : crC (H.s.drop l.pos) 1 = decide (0 < cr1 (H.s.drop l.pos)) := rfl
    have e1 : l.pos + crP (H.s.drop l.pos) 2 = p + cr2 (H.s.drop p) := by show l.pos + crlf _ = _; rw [hc2, ← hpd]; omega
    have e2 : crC (H.s.drop l.pos) 2 = decide (0 < cr1 (H.s.drop l.pos) + cr2 (H.s.drop p)) := by show decide (0 < crlf _) = _; rw [hc2, ← hpd]
    rw [e1, e2] at hk
    rw [e0, e3]
    by_cases hr : rn (H.s.drop p) = 10
    · have h1 : cr2 (H.s.drop p) = 1 := if_pos hr
      have hw1 := wd_rn (k := 10) (by decide) hr
      rw [hw1] at hwl hk
      rw [h1, decide_eq_true (by omega)] at hk
      repeat' (first | refine cseq ?_ | refine rtext ?_ | refine ctrue rfl ?_ | refine cfalse rfl ?_ | refine cskip ?_ | refine cblk ?_ | refine tnorm ?_ | refine jnil ?_ | (first | refine jmv rfl rfl rfl ?_ | (show Jo _ (.load _ _); refine jy (yload (i := 0) rfl rfl rfl one21) rfl rfl ?_) | refine jas_ rfl rfl rfl ?_ | (show Jo _ (.binOp _ _ _ _ _); first | (show Jo _ (.binOp .neq _ _ _ _); refine jy (yneq rfl rfl (by (exact decide_eq_false (by omega)))) rfl rfl ?_) | refine jy (yadd rfl rfl (i64_in (by omega) (by omega))) rfl rfl ?_ | refine jy (ylss rfl rfl (by (exact decide_eq_true (by omega)))) rfl rfl ?_) | (show Jo _ (.call _); ((show Jo _ (.call ⟨.value (.func 73), _, _⟩); refine jcall0 (v := .int .i32 (rn (H.s.drop p))) (cB gc :: lB H (at_ l (p + wd (H.s.drop p)) (wd (H.s.drop p))) :: iB H :: E) bo93 rfl rfl rfl (front_calls [cB gc] (M := [lB H (at_ l p W), iB H]) (M' := [lB H (at_ l (p + wd (H.s.drop p)) (wd (H.s.drop p))), iB H]) (fun w hw => next_calls (E := cB gc :: E) hX (at_ l p W) hp w hw)) ?_))) | (show Jo _ (.indexAddr 133 _ _); refine jy (yat (p' := ⟨gc, 1, none⟩) rfl rfl und156 sz21 (by omega) (by omega) rfl) rfl rfl ?_)))
      rw [hw1]
      exact fin hk ⟨rfl, rfl, rfl, rfl, rfl, trivial⟩ rfl
    · have h1 : cr2 (H.s.drop p) = 0 := if_neg hr
      rw [h1] at hk
      repeat' (first | refine cseq ?_ | refine rtext ?_ | refine ctrue rfl ?_ | refine cskip ?_ | refine cblk ?_ | refine tnorm ?_ | refine jnil ?_ | (first | refine jmv rfl rfl rfl ?_ | (show Jo _ (.load _ _); refine jy (yload (i := 0) rfl rfl rfl one21) rfl rfl ?_) | refine jas_ rfl rfl rfl ?_ | (show Jo _ (.binOp _ _ _ _ _); first | (show Jo _ (.binOp .neq _ _ _ _); refine jy (yneq rfl rfl (by (exact decide_eq_true (by omega)))) rfl rfl ?_) | refine jy (yadd rfl rfl (i64_in (by omega) (by omega))) rfl rfl ?_ | refine jy (ylss rfl rfl (by (exact decide_eq_true (by omega)))) rfl rfl ?_) | (show Jo _ (.call _); first | (show Jo _ (.call ⟨.value (.func 73), _, _⟩); refine jcall0 (v := .int .i32 (rn (H.s.drop p))) (cB gc :: lB H (at_ l (p + wd (H.s.drop p)) (wd (H.s.drop p))) :: iB H :: E) bo93 rfl rfl rfl (front_calls [cB gc] (M := [lB H (at_ l p W), iB H]) (M' := [lB H (at_ l (p + wd (H.s.drop p)) (wd (H.s.drop p))), iB H]) (fun w hw => next_calls (E := cB gc :: E) hX (at_ l p W) hp w hw)) ?_) | (show Jo _ (.call ⟨.value (.func 95), _, _⟩); refine jcall0 (v := .tuple #[]) (cB gc :: lB H (at_ l (p + wd (H.s.drop p) - wd (H.s.drop p)) (wd (H.s.drop p))) :: iB H :: E) bo117 rfl rfl rfl (front_calls [cB gc] (M := [lB H (at_ l (p + wd (H.s.drop p)) (wd (H.s.drop p)))]) (M' := [lB H (at_ l (p + wd (H.s.drop p) - wd (H.s.drop p)) (wd (H.s.drop p)))]) (E := iB H :: E) (fun w hw => backup_calls (E := cB gc :: iB H :: E) hX (at_ l (p + wd (H.s.drop p)) (wd (H.s.drop p))) hwl (Nat.le_add_left _ _) w hw)) ?_)) | (show Jo _ (.indexAddr 133 _ _); refine jy (yat (p' := ⟨gc, 1, none⟩) rfl rfl und156 sz21 (by omega) (by omega) rfl) rfl rfl ?_)))
      rw [Nat.add_sub_cancel]
      exact fin hk ⟨rfl, rfl, rfl, rfl, rfl, trivial⟩ rfl
  | 2, _ =>
    repeat' (first | refine cseq ?_ | refine rtext ?_ | refine cfalse rfl ?_ | refine cret ?_ | refine cexit ?_ | refine jnil ?_ | (first | refine jmv rfl rfl rfl ?_ | refine jas_ rfl rfl rfl ?_ | (show Jo _ (.binOp _ _ _ _ _); refine jy (ylss rfl rfl (by (exact decide_eq_false (by omega)))) rfl rfl ?_)))
    exact ret1 rfl rfl rfl (fun w' hw' => ⟨W, rfl, (hw.up hw').less (List.sublist_cons_self _ _)⟩)
def ipos (it : Itm) : Nat := match it.segs with
  | [] => it.low
  | p :: _ => p.1
def segC : List (Nat × Nat) → List Value
  | [] => []
  | p :: l => .int .i64 p.1 :: .int .i64 p.2 :: segC l
def SegAt (G : Mem) (sg : Value) (segs : List (Nat × Nat)) : Prop := (segs = [] ∧ sg = .slice none 0 0) ∨ ∃ g cap rr, segs ≠ [] ∧ sg = .slice (some ⟨g, 0, none⟩) segs.length cap ∧ (g, segC segs ++ rr, Bk.c 104) ∈ G
def ItC (s : T) (G : Mem) (it : Itm) (c : List Value) : Prop := ∃ er sg, c = itC it.ty er it.low it.high sg (fbN s (ipos it)) it.str ∧ (it.err = false → er = .nilIface) ∧ (it.err = true → ∃ v, er = .iface 149 v) ∧ SegAt G sg it.segs
inductive ICS (s : T) (G : Mem) : List Itm → List Value → Prop
  | nil : ICS s G [] []
  | cons {it c its cs} : ItC s G it c → ICS s G its cs → ICS s G (it :: its) (c ++ cs)
theorem ICS.app {s : T} {G : Mem} {a b : List Itm} {c d : List Value} (h : ICS s G a c) (k : ICS s G b d) : ICS s G (a ++ b) (c ++ d) := by
  induction h with
  | nil => exact k
  | cons h1 _ ih => rw [List.cons_append, List.append_assoc]; exact .cons h1 ih
theorem ItC.mono {s : T} {G G' : Mem} {it : Itm} {c : List Value} (h : ItC s G it c) (hG : ∀ b ∈ G, b ∈ G') : ItC s G' it c := by
  obtain ⟨er, sg, h1, h2, h3, h4⟩ := h
  refine ⟨er, sg, h1, h2, h3, ?_⟩
  rcases h4 with h4 | ⟨g, cap, rr, h5, h6, h7⟩
  · exact .inl h4
  · exact .inr ⟨g, cap, rr, h5, h6, hG _ h7⟩
theorem ICS.mono {s : T} {G G' : Mem} {a : List Itm} {c : List Value} (h : ICS s G a c) (hG : ∀ b ∈ G, b ∈ G') : ICS s G' a c := by
  induction h with
  | nil => exact .nil
  | cons h1 _ ih => exact .cons (h1.mono hG) ih
def plainI (it : Itm) : Prop := it.segs = [] ∧ it.err = false
theorem ItC.plain {s : T} {G : Mem} {it : Itm} (h : plainI it) : ItC s G it (itmC s it) := by
  refine ⟨.nilIface, .slice none 0 0, ?_, fun _ => rfl, fun h1 => absurd h1 (by rw [h.2]; simp), .inl ⟨h.1, rfl⟩⟩
  unfold itmC ipos
  rw [h.1]
theorem ICS.plain {s : T} {G : Mem} : ∀ {l : List Itm}, (∀ it ∈ l, plainI it) → ICS s G l (l.flatMap (itmC s))
  | [], _ => .nil
  | it :: l, h => by rw [List.flatMap_cons]; exact .cons (.plain (h it (List.mem_cons_self ..))) (ICS.plain fun i hi => h i (List.mem_cons_of_mem _ hi))
theorem emI_plain {s : T} {t a b : Nat} : ∀ it ∈ emI s t a b, plainI it := by
  unfold emI txts
  split
  · dsimp only
    split
    · simp [mk, plainI]
    · split
      · intro it hi
        simp only [List.mem_cons, List.not_mem_nil, or_false] at hi
        rcases hi with rfl | rfl <;> exact ⟨rfl, rfl⟩
      · simp [mk, plainI]
  · simp [mk, plainI]
theorem emI_len {s : T} {t a b : Nat} : (emI s t a b).length ≤ 2 := by
  unfold emI txts
  split
  · dsimp only
    split
    · simp
    · split <;> simp
  · simp
@[reducible] def lsOf (x : Lx) (st : Value) (wd : Nat) (dv its : Value) : LS := ⟨st, x.pos, x.start, wd, dv, x.chk, if x.md then 10 else 8, if x.md then 11 else 9, x.inl, x.name, x.closing, x.step, x.par, its⟩
def okv (l : List (ByteArray × Bool)) : List (ByteArray × Value) := l.map fun p => (p.1, .bool p.2)
def mB (H : Hd) (op : List (ByteArray × Bool)) : Nat × List Value × Bk := (H.gM, kvC (okv op), .m)
def eM (H : Hd) (x : Lx) (gd : Nat) (F G : Mem) : Mem := mB H x.op :: fB gd (divr x.org) :: (F ++ G)
def cM (H : Hd) (x : Lx) (st : Value) (wd gd : Nat) (q : RS) (F G : Mem) : Mem := lB H (lsOf x st wd (fV gd (divr x.org)) q.val) :: iB H :: qB q :: eM H x gd F G
structure StOk (X : Cx) (H : Hd) (x : Lx) (q : RS) (G : Mem) : Prop where
  ok : QOk X q
  n : q.n = x.items.length
  ics : ICS H.s G x.items q.ics
  p : x.pos ≤ H.s.length
  s : x.start ≤ x.pos
theorem StOk.sub {X : Cx} {H : Hd} {x : Lx} {q : RS} {G : Mem} (h : StOk X H x q G) (n : Nat) (w : World) : StOk (X.sub n w) H x q G := ⟨h.ok.sub n w, h.n, h.ics, h.p, h.s⟩
theorem StOk.up {X : Cx} {H : Hd} {x : Lx} {q : RS} {G : Mem} {m : Mem} {n : Nat} {w : World} (hw : Cl X m w) (h : StOk (X.sub n w) H x q G) : StOk X H x q G := ⟨QOk.up hw h.ok, h.n, h.ics, h.p, h.s⟩
theorem StOk.mv {X : Cx} {H : Hd} {x y : Lx} {q : RS} {G : Mem} (h : StOk X H x q G) (hi : y.items = x.items) (hp : y.pos ≤ H.s.length) (hs : y.start ≤ y.pos) : StOk X H y q G := ⟨h.ok, by rw [hi]; exact h.n, by rw [hi]; exact h.ics, hp, hs⟩
def stF : St → Nat
  | .main => 54
  | .done => 82
  | .left => 119
  | .comment => 135
  | .right => 147
  | .inside => 137
  | .pval => 151
  | .ident => 155
  | .endsc => 168
  | .intro => 53
  | .json => 77
  | .org => 78
def fnV (k : Nat) : Value := .func (.func k) #[] #[]
def stV : Option St → Value
  | none => .nilFunc
  | some s => fnV (stF s)
def SR (X : Cx) (H : Hd) (st : Value) (gd : Nat) (F : Mem) (r : Res) (e : Ending) (w' : World) : Prop := ∃ (q' : RS) (W : Nat) (G' : Mem), e = .returned (stV r.2) ∧ Cl X (cM H r.1 st W gd q' F G') w' ∧ StOk X H r.1 q' G'
@[reducible] def emitL (s : T) (t : Nat) (x : Lx) : Lx := { x with items := x.items ++ emI s t x.start x.pos, start := x.pos }
theorem emitL_n (s : T) {t : Nat} (x : Lx) (ht : t ≠ 18) : emitL s t x = emit t x := by unfold emitL emit emI; rw [if_neg ht]
theorem emit_st {X : Cx} {H : Hd} {E G : Mem} (hX : Ok X H) {x : Lx} {q : RS} (hS : StOk X H x q G) (st dv : Value) (wd : Nat) (hf : x.items.length < 999999999990) (t : Nat) : ∀ w, Cl X (lB H (lsOf x st wd dv q.val) :: iB H :: qB q :: E) w →
    Calls Tryz.prog 94 #[pL H, .int .i64 t] w fun e w' => ∃ q' : RS, e = .returned (.tuple #[]) ∧ Cl X (lB H (lsOf (emitL H.s t x) st wd dv q'.val) :: iB H :: qB q' :: E) w' ∧ StOk X H (emitL H.s t x) q' G := fun w hw =>
  (emit_calls hX (lsOf x st wd dv q.val) q hS.ok rfl (by rw [hS.n]; omega) t hS.s hS.p w hw).mono fun e w' ⟨q', h1, h2, h3, h4, h5⟩ => ⟨q', h1, h2, h3, by rw [h5, hS.n]; simp [emitL, lsOf], by rw [h4]; exact hS.ics.app (.plain emI_plain), hS.p, Nat.le_refl _⟩
theorem err_st {X : Cx} {H : Hd} {E G : Mem} (hX : Ok X H) {x : Lx} {q : RS} (hS : StOk X H x q G) (st dv : Value) (wd : Nat) (hf : x.items.length < 999999999990) (s : ByteArray) (v : Value) : ∀ w, Cl X (lB H (lsOf x st wd dv q.val) :: iB H :: qB q :: E) w →
    Calls Tryz.prog 90 #[pL H, .string s, v] w fun e w' => ∃ q' : RS, e = .returned .nilFunc ∧ Cl X (lB H (lsOf (errI x) st wd dv q'.val) :: iB H :: qB q' :: E) w' ∧ StOk X H (errI x) q' G := fun w hw =>
  (errorf_calls hX (lsOf x st wd dv q.val) q hS.ok rfl (by rw [hS.n]; omega) s v w hw).mono fun e w' ⟨q', ev, h1, h2, h3, h4, h5⟩ => ⟨q', h1, h2, h3, by rw [h5, hS.n]; simp [errI], by
    rw [h4]
    refine hS.ics.app ?_
    have := ICS.cons (s := H.s) (G := G) (it := { mk 0 x.start x.pos with err := true }) ⟨.iface 149 ev, .slice none 0 0, rfl, fun h => by simp at h, fun _ => ⟨ev, rfl⟩, .inl ⟨rfl, rfl⟩⟩ ICS.nil
    rw [List.append_nil] at this
    exact this, hS.p, hS.s⟩
theorem bo102 : bodyB Tryz.prog 82 = true := by kernel_rfl
theorem done_calls {X : Cx} {H : Hd} {F G : Mem} (hX : Ok X H) {x : Lx} {q : RS} (hS : StOk X H x q G) (hf : x.items.length < 999999999000) (st : Value) (wd gd : Nat) : ∀ w, Cl X (cM H x st wd gd q F G) w → Calls Tryz.prog 82 #[pL H] w (SR X H st gd F (done H.s x)) := by
  intro w hw
  refine enterC 16 hw Tryz.func82 rfl rfl (vs := [pL H]) rfl ?_
  replace hX := hX.sub hw 16
  replace hS := hS.sub 16 w
  conv => arg 2; arg 2; whnf
  by_cases hlt : x.start < x.pos
  · have e1 : done H.s x = (emitL H.s 1 (emitL H.s 18 x), none) := by unfold done; rw [if_pos hlt, emitL_n _ _ (by decide)]; rfl
    rw [e1]
    repeat' (first | (show PJ _ (Code.wp _ _ _) _ _; first | refine cseq ?_ | refine rtext ?_ | refine ctrue rfl ?_ | refine cret ?_ | refine rquiet mixed (by kernel_rfl) ?_) | refine jnil ?_ | (first | refine jmv rfl rfl rfl ?_ | refine jy (ynil rfl) rfl rfl ?_ | (show Jo _ (.fieldAddr _ _ _); refine jy (yfield rfl (by first | exact fb110_3 | exact fb110_4) rfl) rfl rfl ?_) | (show Jo _ (.load _ _); refine jy (yload (i := 0) rfl rfl rfl one3) rfl rfl ?_) | refine jas_ rfl rfl rfl ?_ | (show Jo _ (.binOp _ _ _ _ _); (refine jy (ygtr rfl rfl (by (exact decide_eq_true (by (try dsimp only [lsOf, emitL]); omega)))) rfl rfl ?_)) | (show Jo _ (.call _); first | (show Jo (some 13) (.call _); refine jcall (ι := RS) (vs := [pL H, .int .i64 (18 : Nat)]) (v := fun _ => .tuple #[]) (m' := fun q' => cM H (emitL H.s 18 x) st wd gd q' F G) (fun q' => StOk _ H (emitL H.s 18 x) q' G) bo116 rfl rfl rfl (emit_st hX hS st _ wd (by omega) 18) (fun q1 hS1 => ?_)) | (show Jo (some 15) (.call _); (refine jcall (ι := RS) (vs := [pL H, .int .i64 (1 : Nat)]) (v := fun _ => .tuple #[]) (m' := fun q' => cM H (emitL H.s 1 (emitL H.s 18 x)) st wd gd q' F G) (fun q' => StOk _ H (emitL H.s 1 (emitL H.s 18 x)) q' G) bo116 rfl rfl rfl (emit_st hX hS1 st _ wd (by have := emI_len (s := H.s) (t := 18) (a := x.start) (b := x.pos); simp only [emitL, List.length_append]; omega) 1) (fun q2 hS2 => ?_))))))
    exact ret1 rfl rfl rfl (fun w' hw' => ⟨q2, wd, G, rfl, hw.up hw', StOk.up hw hS2⟩)
  · have e1 : done H.s x = (emitL H.s 1 x, none) := by unfold done; rw [if_neg hlt, emitL_n _ _ (by decide)]
    rw [e1]
    repeat' (first | (show PJ _ (Code.wp _ _ _) _ _; first | refine cseq ?_ | refine rtext ?_ | refine cfalse rfl ?_ | refine cskip ?_ | refine cret ?_ | refine rquiet mixed (by kernel_rfl) ?_) | refine jnil ?_ | (first | refine jmv rfl rfl rfl ?_ | refine jy (ynil rfl) rfl rfl ?_ | (show Jo _ (.fieldAddr _ _ _); refine jy (yfield rfl (by first | exact fb110_3 | exact fb110_4) rfl) rfl rfl ?_) | (show Jo _ (.load _ _); refine jy (yload (i := 0) rfl rfl rfl one3) rfl rfl ?_) | refine jas_ rfl rfl rfl ?_ | (show Jo _ (.binOp _ _ _ _ _); (refine jy (ygtr rfl rfl (by (exact decide_eq_false (by (try dsimp only [lsOf, emitL]); omega)))) rfl rfl ?_)) | (show Jo _ (.call _); ((show Jo (some 15) (.call _); refine jcall (ι := RS) (vs := [pL H, .int .i64 (1 : Nat)]) (v := fun _ => .tuple #[]) (m' := fun q' => cM H (emitL H.s 1 x) st wd gd q' F G) (fun q' => StOk _ H (emitL H.s 1 x) q' G) bo116 rfl rfl rfl (emit_st hX hS st _ wd (by omega) 1) (fun q2 hS2 => ?_))))))
    exact ret1 rfl rfl rfl (fun w' hw' => ⟨q2, wd, G, rfl, hw.up hw', StOk.up hw hS2⟩)
theorem bo141 : bodyB Tryz.prog 119 = true := by kernel_rfl
theorem bo169 : bodyB Tryz.prog 147 = true := by kernel_rfl
theorem bo173 : bodyB Tryz.prog 151 = true := by kernel_rfl
theorem rd_len (md : Bool) : (rd md).length = 3 := by cases md <;> rfl
theorem lf_len (md : Bool) : (if md then lmd else lno : T).length = 3 := by cases md <;> rfl
theorem cur168L {X : Cx} {H : Hd} {E : Mem} (l : LS) (md : Bool) (ht : l.rt = if md then 11 else 9) : ∀ w, Cl X (lB H l :: E) w → Calls Tryz.prog 146 #[pL H] w fun e w' => ∃ g, e = .returned (fV g (rd md)) ∧ Cl X (lB H l :: E) w' ∧ True := fun w hw =>
  (cur168 l md ht w hw).mono fun e w' ⟨g, h1, h2, _⟩ => ⟨g, h1, h2.less (List.sublist_cons_self _ _), trivial⟩
theorem cur155L {X : Cx} {H : Hd} {E : Mem} (l : LS) (md : Bool) (ht : l.lt = if md then 10 else 8) : ∀ w, Cl X (lB H l :: E) w → Calls Tryz.prog 133 #[pL H] w fun e w' => ∃ g, e = .returned (fV g (if md then lmd else lno)) ∧ Cl X (lB H l :: E) w' ∧ True := fun w hw =>
  (cur155 l md ht w hw).mono fun e w' ⟨g, h1, h2, _⟩ => ⟨g, h1, h2.less (List.sublist_cons_self _ _), trivial⟩
theorem hasP_st {X : Cx} {H : Hd} {E : Mem} (hX : Ok X H) (l : LS) (hp : l.pos ≤ H.s.length) (g : Nat) (p : T) : ∀ w, Cl X (fB g p :: lB H l :: iB H :: E) w → Calls Tryz.prog 93 #[pL H, fV g p] w fun e w' => e = .returned (.bool (p.isPrefixOf (H.s.drop l.pos))) ∧ Cl X (lB H l :: iB H :: E) w' := fun w hw =>
  (hasPrefix_calls (p := p) (hw.1.sub (List.Sublist.cons _ (List.Sublist.cons_cons _ (List.Sublist.cons_cons _ (List.nil_sublist _))))) (fresh_byt hw.1 (.head _)) hX.sz hp).mono fun e w' h => ⟨h.1, (hw.below h.2).less (List.sublist_cons_self _ _)⟩
set_option maxHeartbeats 1000000 in
theorem right_calls {X : Cx} {H : Hd} {F G : Mem} (hX : Ok X H) {x : Lx} {q : RS} (hS : StOk X H x q G) (hf : x.items.length < 999999999000) (hp3 : x.pos + 3 ≤ H.s.length) (st : Value) (wd gd : Nat) : ∀ w, Cl X (cM H x st wd gd q F G) w → Calls Tryz.prog 147 #[pL H] w (SR X H st gd F (right x)) := by
  intro w hw
  refine enterC 21 hw Tryz.func147 rfl rfl (vs := [pL H]) rfl ?_
  replace hX := hX.sub hw 21
  replace hS := hS.sub 21 w
  have hbig := hX.big
  have hss := hS.s
  have h3 := rd_len x.md
  have hS1 : StOk (X.sub 21 w) H { mv 3 x with closing := 0 } q G := hS.mv rfl hp3 (by dsimp only [mv]; omega)
  have e1 : right x = (emitL H.s (if x.md then 11 else 9) { mv 3 x with closing := 0 }, some .main) := by unfold right; rw [emitL_n _ _ (by split <;> decide)]
  rw [e1]
  conv => arg 2; arg 2; whnf
  repeat' (first | first | (show PJ _ (Code.wp _ _ _) _ _; first | refine cseq ?_ | refine rtext ?_ | refine cret ?_ | (show PJ _ (Code.wp _ (Code.region 2 _ true) _) _ _; refine ranyT 8 [lB H (lsOf { x with closing := 0 } st wd (fV gd (divr x.org)) q.val)] mixed ?_)) | refine jnil ?_ | (first | refine jmv rfl rfl rfl ?_ | refine jy (ynil rfl) rfl rfl ?_ | (show Jo _ (.fieldAddr _ _ _); refine jy (yfield rfl (by first | exact fb110_4 | exact fb110_10) rfl) rfl rfl ?_) | refine jas_ rfl rfl rfl ?_ | (show Jo _ (.store _ _ _); refine jstore (i := 0) rfl rfl rfl rfl rfl si3 hX.mL ?_) | (show Jo _ (.call _); first | (show Jo (some 12) (.call _); refine jcall (ι := Nat) (v := fun g => fV g (rd x.md)) (m' := fun _ => cM H { x with closing := 0 } st wd gd q F G) (fun _ => True) bo168 rfl rfl rfl (cur168L (lsOf { x with closing := 0 } st wd (fV gd (divr x.org)) q.val) x.md rfl) (fun g _ => ?_)) | (show Jo (some 19) (.call _); refine jcallq (v := .int .i64 ((if x.md then 11 else 9 : Nat) : Int)) bo182 rfl rfl rfl (quietC fun w' hw' => cur182 (l := lsOf { mv 3 x with closing := 0 } st wd (fV gd (divr x.org)) q.val) (hw'.1.sub (List.Sublist.cons_cons _ (List.nil_sublist _)))) ?_) | (show Jo (some 20) (.call _); refine jcall (ι := RS) (vs := [pL H, .int .i64 ((if x.md then 11 else 9 : Nat) : Int)]) (v := fun _ => .tuple #[]) (m' := fun q' => cM H (emitL H.s (if x.md then 11 else 9) { mv 3 x with closing := 0 }) st wd gd q' F G) (fun q' => StOk _ H (emitL H.s (if x.md then 11 else 9) { mv 3 x with closing := 0 }) q' G) bo116 rfl rfl rfl (emit_st hX hS1 st _ wd (by dsimp only [mv]; omega) (if x.md then 11 else 9)) (fun q1 hS2 => ?_)))) | first | (show JT _ _ _ _ _ _ [] _ _; refine jtnil ?_) | (first | (show JTo _ (.move _); refine jty (ymove rfl) rfl rfl ?_) | (show JTo _ (.nilCheck _); refine jty (ynil rfl) rfl rfl ?_) | (show JTo _ (.fieldAddr _ _ _); refine jty (yfield rfl fb110_3 rfl) rfl rfl ?_) | (show JTo _ (.load _ _); refine jty (yload (i := 0) rfl rfl rfl one3) rfl rfl ?_) | (show JTo _ (.binOp _ _ _ _ _); (refine jty (yadd (c := ((x.pos + 3 : Nat) : Int)) rfl rfl (by rw [h3]; exact (i64_in (by (try dsimp only [lsOf]); omega) (by (try dsimp only [lsOf]); omega)).trans (by (try dsimp only [lsOf]); omega))) rfl rfl ?_)) | (show JTo _ (.call _); ((show JTo _ (.call ⟨.builtin .len, _, _⟩); refine jty (ylenl rfl und59) rfl rfl ?_)))) | first | (show PJ _ (WKeep _ _ _) _ _; refine jas (fun _ h => h.less (by repeat (first | exact List.nil_sublist _ | refine List.Sublist.cons_cons _ ?_))) ?_) | (show PJ _ (WIf _ _ _) _ _; refine jaw ?_) | (show PJ _ (WAnyT _ _ _ _ _ _ _ _) _ _; first | refine jaqT (n := 8) (g' := 6) (D := []) [0, 1, 2, 3, 4] rfl (fun _ h => h.less (by repeat (first | exact List.nil_sublist _ | refine List.Sublist.cons_cons _ ?_))) (by kernel_rfl) (by kernel_rfl) (by kernel_rfl) (by kernel_rfl) (by kernel_rfl) rfl (fun _ d _ _ _ h => by cases d <;> exact h) rfl ?_ | refine ja1T (n := 8) (g' := 5) (D := [0, 1, 2, 3, 4]) 5 rfl rfl (by kernel_rfl) (by kernel_rfl) rfl ?_ | refine jaqT (n := 8) (g' := 3) (D := [0, 1, 2, 3, 4, 5]) [6, 7] rfl (fun _ h => h.less (by repeat (first | exact List.nil_sublist _ | refine List.Sublist.cons_cons _ ?_))) (by kernel_rfl) (by kernel_rfl) (by kernel_rfl) (by kernel_rfl) (by kernel_rfl) rfl (fun _ d _ _ _ h => by cases d <;> exact h) rfl ?_ | refine jfullT (D := [0, 1, 2, 3, 4, 5, 6, 7]) (by kernel_rfl) ?_) | (show PJ _ (WAny _ _ _ _ _ _ _) _ _; first | refine jaq (g' := 1) (D := [0, 1, 2, 3, 4, 5, 6, 7]) [8, 9] rfl (fun _ h => h.less (by repeat ((exact List.nil_sublist _)))) (by kernel_rfl) (by kernel_rfl) rfl (fun _ d _ _ _ h => by cases d <;> exact h) rfl ?_ | refine ja1 (g' := 0) (D := [0, 1, 2, 3, 4, 5, 6, 7, 8, 9]) 10 rfl rfl (by kernel_rfl) rfl ?_ | refine jadone rfl (by kernel_rfl) ?_))
  exact ret1 rfl rfl rfl (fun w' hw' => ⟨q1, wd, G, rfl, hw.up hw', StOk.up hw hS2⟩)
set_option maxHeartbeats 1000000 in
theorem left_calls {X : Cx} {H : Hd} {F G : Mem} (hX : Ok X H) {x : Lx} {q : RS} (hS : StOk X H x q G) (hf : x.items.length < 999999999000) (hp3 : x.pos + 3 ≤ H.s.length) (st : Value) (wd gd : Nat) : ∀ w, Cl X (cM H x st wd gd q F G) w → Calls Tryz.prog 119 #[pL H] w (SR X H st gd F (left H.s x)) := by
  intro w hw
  refine enterC 28 hw Tryz.func119 rfl rfl (vs := [pL H]) rfl ?_
  replace hX := hX.sub hw 28
  replace hS := hS.sub 28 w
  have hbig := hX.big
  have hss := hS.s
  have h3 := lf_len x.md
  have hS1 : StOk (X.sub 28 w) H (mv 3 x) q G := hS.mv rfl hp3 (by dsimp only [mv]; omega)
  conv => arg 2; arg 2; whnf
  by_cases hc : [47, 42].isPrefixOf (H.s.drop (x.pos + 3)) = true
  · have e1 : left H.s x = (mv 3 x, some .comment) := by unfold left; rw [if_pos hc]
    rw [e1]
    repeat' (first | (rw [hc]) | first | (show PJ _ (Code.wp _ _ _) _ _; first | refine cseq ?_ | refine rtext ?_ | refine ctrue rfl ?_ | refine cret ?_ | (show PJ _ (Code.wp _ (Code.region 1 _ true) _) _ _; refine ranyT 8 [lB H (lsOf x st wd (fV gd (divr x.org)) q.val)] mixed ?_)) | refine tret ?_ | refine jnil ?_ | (first | refine jmv rfl rfl rfl ?_ | refine jas_ rfl rfl rfl ?_ | (show Jo _ (.store _ _ _); refine jstore (i := 0) rfl rfl rfl rfl rfl si3 hX.mL ?_) | (show Jo _ (.call _); first | (show Jo (some 8) (.call _); refine jcall (ι := Nat) (v := fun g => fV g (if x.md then lmd else lno)) (m' := fun _ => cM H x st wd gd q F G) (fun _ => True) bo155 rfl rfl rfl (cur155L (lsOf x st wd (fV gd (divr x.org)) q.val) x.md rfl) (fun g _ => ?_)) | (show Jo (some 14) (.call _); refine jcall (ι := Nat) (v := fun g => fV g [47, 42]) (m' := fun g => fB g [47, 42] :: cM H (mv 3 x) st wd gd q F G) (fun _ => True) bo156 rfl rfl rfl (fun w' hw' => (fresh156 _ _ w' hw').mono fun e w'' ⟨g, h1, h2, _⟩ => ⟨g, h1, h2, trivial⟩) (fun g _ => ?_)) | (show Jo (some 15) (.call _); refine jcall0 (v := .bool ([47, 42].isPrefixOf (H.s.drop (x.pos + 3)))) (cM H (mv 3 x) st wd gd q F G) bo115 rfl rfl rfl (hasP_st hX (lsOf (mv 3 x) st wd (fV gd (divr x.org)) q.val) hp3 g [47, 42]) ?_))) | first | (show JT _ _ _ _ _ _ [] _ _; refine jtnil ?_) | (first | (show JTo _ (.move _); refine jty (ymove rfl) rfl rfl ?_) | (show JTo _ (.nilCheck _); refine jty (ynil rfl) rfl rfl ?_) | (show JTo _ (.fieldAddr _ _ _); refine jty (yfield rfl fb110_3 rfl) rfl rfl ?_) | (show JTo _ (.load _ _); refine jty (yload (i := 0) rfl rfl rfl one3) rfl rfl ?_) | (show JTo _ (.binOp _ _ _ _ _); (refine jty (yadd (c := ((x.pos + 3 : Nat) : Int)) rfl rfl (by rw [h3]; exact (i64_in (by (try dsimp only [lsOf]); omega) (by (try dsimp only [lsOf]); omega)).trans (by (try dsimp only [lsOf]); omega))) rfl rfl ?_)) | (show JTo _ (.call _); ((show JTo _ (.call ⟨.builtin .len, _, _⟩); refine jty (ylenl rfl und59) rfl rfl ?_)))) | first | (show PJ _ (WKeep _ _ _) _ _; refine jas (fun _ h => h.less (by repeat (first | exact List.nil_sublist _ | refine List.Sublist.cons_cons _ ?_))) ?_) | (show PJ _ (WIf _ _ _) _ _; refine jaw ?_) | (show PJ _ (WAnyT _ _ _ _ _ _ _ _) _ _; first | refine jaqT (n := 8) (g' := 6) (D := []) [0, 1, 2, 3, 4] rfl (fun _ h => h.less (by repeat (first | exact List.nil_sublist _ | refine List.Sublist.cons_cons _ ?_))) (by kernel_rfl) (by kernel_rfl) (by kernel_rfl) (by kernel_rfl) (by kernel_rfl) rfl (fun _ d _ _ _ h => by cases d <;> exact h) rfl ?_ | refine ja1T (n := 8) (g' := 5) (D := [0, 1, 2, 3, 4]) 5 rfl rfl (by kernel_rfl) (by kernel_rfl) rfl ?_ | refine jaqT (n := 8) (g' := 3) (D := [0, 1, 2, 3, 4, 5]) [6, 7] rfl (fun _ h => h.less (by repeat (first | exact List.nil_sublist _ | refine List.Sublist.cons_cons _ ?_))) (by kernel_rfl) (by kernel_rfl) (by kernel_rfl) (by kernel_rfl) (by kernel_rfl) rfl (fun _ d _ _ _ h => by cases d <;> exact h) rfl ?_ | refine jfullT (D := [0, 1, 2, 3, 4, 5, 6, 7]) (by kernel_rfl) ?_) | (show PJ _ (WAny _ _ _ _ _ _ _) _ _; first | refine jaq (g' := 1) (D := [0, 1, 2, 3, 4, 5, 6, 7]) [8, 9] rfl (fun _ h => h.less (by repeat ((exact List.nil_sublist _)))) (by kernel_rfl) (by kernel_rfl) rfl (fun _ d _ _ _ h => by cases d <;> exact h) rfl ?_ | refine ja1 (g' := 0) (D := [0, 1, 2, 3, 4, 5, 6, 7, 8, 9]) 10 rfl rfl (by kernel_rfl) rfl ?_ | refine jadone rfl (by kernel_rfl) ?_))
    exact ret1 rfl rfl rfl (fun w' hw' => ⟨q, wd, G, rfl, hw.up hw', StOk.up hw hS1⟩)
  · replace hc : [47, 42].isPrefixOf (H.s.drop (x.pos + 3)) = false := Bool.eq_false_iff.2 hc
    have e1 : left H.s x = ({ emitL H.s (if x.md then 10 else 8) (mv 3 x) with step := 0, par := 0 }, some .inside) := by unfold left; rw [if_neg (by rw [hc]; simp), emitL_n _ _ (by split <;> decide)]
    rw [e1]
    repeat' (first | (rw [hc]) | first | (show PJ _ (Code.wp _ _ _) _ _; first | refine cseq ?_ | refine rtext ?_ | refine cfalse rfl ?_ | refine cskip ?_ | refine cret ?_ | (show PJ _ (Code.wp _ (Code.region 1 _ true) _) _ _; refine ranyT 8 [lB H (lsOf x st wd (fV gd (divr x.org)) q.val)] mixed ?_)) | refine jnil ?_ | (first | refine jmv rfl rfl rfl ?_ | refine jy (ynil rfl) rfl rfl ?_ | (show Jo _ (.fieldAddr _ _ _); refine jy (yfield rfl (by first | exact fb110_10 | exact fb108_5 | exact fb108_6) rfl) rfl rfl ?_) | refine jas_ rfl rfl rfl ?_ | (show Jo _ (.store _ _ _); refine jstore (i := 0) rfl rfl rfl rfl rfl si3 hX.mL ?_) | (show Jo _ (.call _); first | (show Jo (some 8) (.call _); refine jcall (ι := Nat) (v := fun g => fV g (if x.md then lmd else lno)) (m' := fun _ => cM H x st wd gd q F G) (fun _ => True) bo155 rfl rfl rfl (cur155L (lsOf x st wd (fV gd (divr x.org)) q.val) x.md rfl) (fun g _ => ?_)) | (show Jo (some 14) (.call _); refine jcall (ι := Nat) (v := fun g => fV g [47, 42]) (m' := fun g => fB g [47, 42] :: cM H (mv 3 x) st wd gd q F G) (fun _ => True) bo156 rfl rfl rfl (fun w' hw' => (fresh156 _ _ w' hw').mono fun e w'' ⟨g, h1, h2, _⟩ => ⟨g, h1, h2, trivial⟩) (fun g _ => ?_)) | (show Jo (some 15) (.call _); refine jcall0 (v := .bool ([47, 42].isPrefixOf (H.s.drop (x.pos + 3)))) (cM H (mv 3 x) st wd gd q F G) bo115 rfl rfl rfl (hasP_st hX (lsOf (mv 3 x) st wd (fV gd (divr x.org)) q.val) hp3 g [47, 42]) ?_) | (show Jo (some 18) (.call _); refine jcallq (v := .int .i64 ((if x.md then 10 else 8 : Nat) : Int)) bo158 rfl rfl rfl (quietC fun w' hw' => cur158 (l := lsOf (mv 3 x) st wd (fV gd (divr x.org)) q.val) (hw'.1.sub (List.Sublist.cons_cons _ (List.nil_sublist _)))) ?_) | (show Jo (some 19) (.call _); refine jcall (ι := RS) (vs := [pL H, .int .i64 ((if x.md then 10 else 8 : Nat) : Int)]) (v := fun _ => .tuple #[]) (m' := fun q' => cM H (emitL H.s (if x.md then 10 else 8) (mv 3 x)) st wd gd q' F G) (fun q' => StOk _ H (emitL H.s (if x.md then 10 else 8) (mv 3 x)) q' G) bo116 rfl rfl rfl (emit_st hX hS1 st _ wd (by dsimp only [mv]; omega) (if x.md then 10 else 8)) (fun q1 hS2 => ?_)))) | first | (show JT _ _ _ _ _ _ [] _ _; refine jtnil ?_) | (first | (show JTo _ (.move _); refine jty (ymove rfl) rfl rfl ?_) | (show JTo _ (.nilCheck _); refine jty (ynil rfl) rfl rfl ?_) | (show JTo _ (.fieldAddr _ _ _); refine jty (yfield rfl fb110_3 rfl) rfl rfl ?_) | (show JTo _ (.load _ _); refine jty (yload (i := 0) rfl rfl rfl one3) rfl rfl ?_) | (show JTo _ (.binOp _ _ _ _ _); (refine jty (yadd (c := ((x.pos + 3 : Nat) : Int)) rfl rfl (by rw [h3]; exact (i64_in (by (try dsimp only [lsOf]); omega) (by (try dsimp only [lsOf]); omega)).trans (by (try dsimp only [lsOf]); omega))) rfl rfl ?_)) | (show JTo _ (.call _); ((show JTo _ (.call ⟨.builtin .len, _, _⟩); refine jty (ylenl rfl und59) rfl rfl ?_)))) | first | (show PJ _ (WKeep _ _ _) _ _; refine jas (fun _ h => h.less (by repeat (first | exact List.nil_sublist _ | refine List.Sublist.cons_cons _ ?_))) ?_) | (show PJ _ (WIf _ _ _) _ _; refine jaw ?_) | (show PJ _ (WAnyT _ _ _ _ _ _ _ _) _ _; first | refine jaqT (n := 8) (g' := 6) (D := []) [0, 1, 2, 3, 4] rfl (fun _ h => h.less (by repeat (first | exact List.nil_sublist _ | refine List.Sublist.cons_cons _ ?_))) (by kernel_rfl) (by kernel_rfl) (by kernel_rfl) (by kernel_rfl) (by kernel_rfl) rfl (fun _ d _ _ _ h => by cases d <;> exact h) rfl ?_ | refine ja1T (n := 8) (g' := 5) (D := [0, 1, 2, 3, 4]) 5 rfl rfl (by kernel_rfl) (by kernel_rfl) rfl ?_ | refine jaqT (n := 8) (g' := 3) (D := [0, 1, 2, 3, 4, 5]) [6, 7] rfl (fun _ h => h.less (by repeat (first | exact List.nil_sublist _ | refine List.Sublist.cons_cons _ ?_))) (by kernel_rfl) (by kernel_rfl) (by kernel_rfl) (by kernel_rfl) (by kernel_rfl) rfl (fun _ d _ _ _ h => by cases d <;> exact h) rfl ?_ | refine jfullT (D := [0, 1, 2, 3, 4, 5, 6, 7]) (by kernel_rfl) ?_) | (show PJ _ (WAny _ _ _ _ _ _ _) _ _; first | refine jaq (g' := 1) (D := [0, 1, 2, 3, 4, 5, 6, 7]) [8, 9] rfl (fun _ h => h.less (by repeat ((exact List.nil_sublist _)))) (by kernel_rfl) (by kernel_rfl) rfl (fun _ d _ _ _ h => by cases d <;> exact h) rfl ?_ | refine ja1 (g' := 0) (D := [0, 1, 2, 3, 4, 5, 6, 7, 8, 9]) 10 rfl rfl (by kernel_rfl) rfl ?_ | refine jadone rfl (by kernel_rfl) ?_))
    exact ret1 rfl rfl rfl (fun w' hw' => ⟨q1, wd, G, rfl, hw.up hw', (StOk.up hw hS2).mv rfl hp3 (Nat.le_refl _)⟩)
section
variable {X : Cx} {H : Hd} {E : Mem} (hX : Ok X H) (x : Lx) (st : Value) (W : Nat) (dv its : Value)
include hX
theorem next_st (hp : x.pos ≤ H.s.length) : ∀ w, Cl X (lB H (lsOf x st W dv its) :: iB H :: E) w → Calls Tryz.prog 73 #[pL H] w fun e w' => e = .returned (.int .i32 (rn (H.s.drop x.pos))) ∧ Cl X (lB H (lsOf (mv (wd (H.s.drop x.pos)) x) st (wd (H.s.drop x.pos)) dv its) :: iB H :: E) w' := next_calls hX (lsOf x st W dv its) hp
theorem back_st (k : Nat) (hp : x.pos + k ≤ H.s.length) : ∀ w, Cl X (lB H (lsOf (mv k x) st k dv its) :: E) w → Calls Tryz.prog 95 #[pL H] w fun e w' => e = .returned (.tuple #[]) ∧ Cl X (lB H (lsOf x st k dv its) :: E) w' := by
  have h := backup_calls (E := E) hX (lsOf (mv k x) st k dv its) hp (Nat.le_add_left _ _)
  have e : ({ lsOf (mv k x) st k dv its with pos := (lsOf (mv k x) st k dv its).pos - (lsOf (mv k x) st k dv its).wd } : LS) = lsOf x st k dv its := by
    show LS.mk st (x.pos + k - k) _ _ _ _ _ _ _ _ _ _ _ _ = LS.mk st x.pos _ _ _ _ _ _ _ _ _ _ _ _
    rw [Nat.add_sub_cancel]
    rfl
  rw [e] at h
  exact h
theorem ign_st : ∀ w, Cl X (lB H (lsOf x st W dv its) :: E) w → Calls Tryz.prog 92 #[pL H] w fun e w' => e = .returned (.tuple #[]) ∧ Cl X (lB H (lsOf (ign x) st W dv its) :: E) w' := ignore_calls hX (lsOf x st W dv its)
theorem peek_st (hp : x.pos ≤ H.s.length) : ∀ w, Cl X (lB H (lsOf x st W dv its) :: iB H :: E) w → Calls Tryz.prog 148 #[pL H] w fun e w' => e = .returned (.int .i32 (rn (H.s.drop x.pos))) ∧ Cl X (lB H (lsOf x st (wd (H.s.drop x.pos)) dv its) :: iB H :: E) w' := peek_calls hX (lsOf x st W dv its) hp
theorem space_st (hp : x.pos ≤ H.s.length) : ∀ w, Cl X (lB H (lsOf x st W dv its) :: iB H :: E) w → Calls Tryz.prog 122 #[pL H] w fun e w' => ∃ V : Nat, e = .returned (.tuple #[]) ∧ Cl X (lB H (lsOf (mv (spN (H.s.drop x.pos)) x) st V dv its) :: iB H :: E) w' ∧ True := fun w hw =>
  (consumeSpace_calls hX (lsOf x st W dv its) hp w hw).mono fun e w' ⟨V, h1, h2⟩ => ⟨V, h1, h2, trivial⟩
theorem toSpace_st (hp : x.pos ≤ H.s.length) : ∀ w, Cl X (lB H (lsOf x st W dv its) :: iB H :: E) w → Calls Tryz.prog 164 #[pL H] w fun e w' => ∃ V : Nat, e = .returned (.tuple #[]) ∧ Cl X (lB H (lsOf (mv (toSpN (H.s.drop x.pos)) x) st V dv its) :: iB H :: E) w' ∧ True := fun w hw =>
  (consumeToSpace_calls hX (lsOf x st W dv its) hp w hw).mono fun e w' ⟨V, h1, h2⟩ => ⟨V, h1, h2, trivial⟩
theorem crlf_st (hp : x.pos ≤ H.s.length) : ∀ w, Cl X (lB H (lsOf x st W dv its) :: iB H :: E) w → Calls Tryz.prog 91 #[pL H] w fun e w' => ∃ V : Nat, e = .returned (.bool (decide (0 < crlf (H.s.drop x.pos)))) ∧ Cl X (lB H (lsOf (mv (crlf (H.s.drop x.pos)) x) st V dv its) :: iB H :: E) w' ∧ True := fun w hw =>
  (consumeCRLF_calls hX (lsOf x st W dv its) hp w hw).mono fun e w' ⟨V, h1, h2⟩ => ⟨V, h1, h2, trivial⟩
theorem emitS_st {q : RS} {G : Mem} (hS : StOk X H x q G) (hf : x.items.length < 999999999990) (t : Nat) : ∀ w, Cl X (lB H (lsOf x st W dv q.val) :: iB H :: qB q :: E) w →
    Calls Tryz.prog 163 #[pL H, .int .i64 t] w fun e w' => ∃ q' : RS, e = .returned (.tuple #[]) ∧ Cl X (lB H (lsOf (emitS t x) st W dv q'.val) :: iB H :: qB q' :: E) w' ∧ StOk X H (emitS t x) q' G := fun w hw =>
  (emitString_calls hX (lsOf x st W dv q.val) q hS.ok rfl (by rw [hS.n]; omega) t w hw).mono fun e w' ⟨q', h1, h2, h3, h4, h5⟩ => ⟨q', h1, h2, h3, by rw [h5, hS.n]; simp [emitS], by rw [h4]; exact hS.ics.app (.plain (by simp [plainI, mk])), hS.p, Nat.le_refl _⟩
end
theorem spN_le (l : T) : spN l ≤ l.length := by
  induction l with
  | nil => exact Nat.le_refl _
  | cons c r ih => unfold spN; split <;> simp <;> omega
theorem toSpN_le (l : T) : toSpN l ≤ l.length := by
  induction l with
  | nil => exact Nat.le_refl _
  | cons c r ih => unfold toSpN; split <;> simp <;> omega
theorem pval_calls {X : Cx} {H : Hd} {F G : Mem} (hX : Ok X H) {x : Lx} {q : RS} (hS : StOk X H x q G) (hf : x.items.length < 999999999000) (st : Value) (W gd : Nat) : ∀ w, Cl X (cM H x st W gd q F G) w → Calls Tryz.prog 151 #[pL H] w (SR X H st gd F (pval H.s x)) := by
  intro w hw
  refine enterC 7 hw Tryz.func151 rfl rfl (vs := [pL H]) rfl ?_
  replace hX := hX.sub hw 7
  replace hS := hS.sub 7 w
  have hss := hS.s
  have hpp := hS.p
  have hle := toSpN_le (H.s.drop x.pos)
  rw [List.length_drop] at hle
  have hS1 : StOk (X.sub 7 w) H (mv (toSpN (H.s.drop x.pos)) x) q G := hS.mv rfl (by dsimp only [mv]; omega) (by dsimp only [mv]; omega)
  have e1 : pval H.s x = (emitL H.s 16 (mv (toSpN (H.s.drop x.pos)) x), some .inside) := by unfold pval; rw [emitL_n _ _ (by decide)]
  rw [e1]
  conv => arg 2; arg 2; whnf
  repeat' (first | refine cseq ?_ | refine rtext ?_ | refine cret ?_ | refine jnil ?_ | (first | refine jmv rfl rfl rfl ?_ | refine jas_ rfl rfl rfl ?_ | (show Jo _ (.call _); first | (show Jo (some 4) (.call _); refine jcall (ι := Nat) (v := fun _ => .tuple #[]) (m' := fun V => cM H (mv (toSpN (H.s.drop x.pos)) x) st V gd q F G) (fun _ => True) bo186 rfl rfl rfl (toSpace_st hX x st W _ _ hS.p) (fun V _ => ?_)) | (show Jo (some 6) (.call _); refine jcall (ι := RS) (vs := [pL H, .int .i64 (16 : Nat)]) (v := fun _ => .tuple #[]) (m' := fun q' => cM H (emitL H.s 16 (mv (toSpN (H.s.drop x.pos)) x)) st V gd q' F G) (fun q' => StOk _ H (emitL H.s 16 (mv (toSpN (H.s.drop x.pos)) x)) q' G) bo116 rfl rfl rfl (emit_st hX hS1 st _ V (by dsimp only [mv]; omega) 16) (fun q1 hS2 => ?_)))))
  exact ret1 rfl rfl rfl (fun w' hw' => ⟨q1, V, G, rfl, hw.up hw', StOk.up hw hS2⟩)
theorem bo172 : bodyB Tryz.prog 150 = true := by kernel_rfl
theorem bo183 : bodyB Tryz.prog 161 = true := by kernel_rfl
theorem co59 : Tryz.prog.concrete 62 = true := by kernel_rfl
theorem gr153 : growB Tryz.prog 130 20 1 16 = true := by kernel_rfl
theorem rLoop_drop : ∀ (k : Nat) (l : T) (n : Nat) (so : Option Nat) (op : Bool), k ≤ l.length → (∀ j, j < k → 128 ≤ gb l j) → rLoop l n so op = rLoop (l.drop k) (n + k) so op := by
  intro k
  induction k with
  | zero => intro l n so op _ _; simp
  | succ k ih =>
    intro l n so op hl hb
    cases l with
    | nil => simp at hl
    | cons c r =>
      have h0 : 128 ≤ c.toNat := hb 0 (Nat.succ_pos k)
      conv => lhs; unfold rLoop
      rw [if_neg (fun h => by subst h; exact absurd h0 (by decide)), ih r (n + 1) so op (by simpa using hl) (fun j hj => hb (j + 1) (by omega)), List.drop_succ_cons]
      congr 1
      omega
theorem rLoop_step {l : T} (n : Nat) (so : Option Nat) (op : Bool) (hl : l ≠ []) (h : rn l ≠ 96) : rLoop l n so op = rLoop (l.drop (wd l)) (n + wd l) so op := by
  cases l with
  | nil => exact absurd rfl hl
  | cons c r =>
    rcases rn_cons c r with ⟨h1, h2, h3⟩ | ⟨h1, h2⟩
    · rw [h3]
      conv => lhs; unfold rLoop
      rw [if_neg (fun e => h (by subst e; exact h2))]
      rfl
    · have hw : wd (c :: r) = (dec (c :: r)).2 := by unfold wd; rw [if_neg (by simp)]
      have hd := dec_wide (l := c :: r) h1
      rw [hw]
      exact rLoop_drop _ _ n so op hd.2.1 hd.2.2
theorem rLoop_bq {l : T} (n : Nat) (so : Option Nat) (op : Bool) (h : rn l = 96) : wd l = 1 ∧ rLoop l n so op = if op then (false, n, so) else rLoop (l.drop 1) (n + 1) (some (n + 1)) true := by
  refine ⟨wd_rn (k := 96) (by decide) h, ?_⟩
  cases l with
  | nil => exact absurd h (by decide)
  | cons c r =>
    have hc : c = 96 := (rn_lit c 96 r (by decide)).mp h
    subst hc
    conv => lhs; unfold rLoop
    rfl
theorem current_calls {w : World} {H : Hd} {l : LS} (hm : Has [lB H l] w) (hs : l.start ≤ l.pos) (hp : l.pos ≤ H.s.length) (hsz : H.s.length ≤ H.cap) : Calls Tryz.prog 161 #[pL H] w fun e w' => ∃ v : Value, e = .returned v ∧ Below w.heap.size w w' := by
  refine enter (fun _ => False) 16 [lB H l] Tryz.func161 rfl rfl rfl (vs := [pL H]) hm ?_
  conv => arg 2; arg 2; whnf
  repeat' (first | (show PJ _ (Code.wp _ _ _) _ _; first | refine cseq ?_ | refine rtext ?_ | refine cret ?_ | refine rquiet mixed (by kernel_rfl) ?_) | refine jnil ?_ | (first | refine jmv rfl rfl rfl ?_ | refine jy (ynil rfl) rfl rfl ?_ | (show Jo _ (.fieldAddr _ _ _); refine jy (yfield rfl (by first | exact fb110_3 | exact fb110_0 | exact fb110_4) rfl) rfl rfl ?_) | (show Jo _ (.load _ _); refine jy (yload (i := 0) rfl rfl rfl one3) rfl rfl ?_) | refine jas_ rfl rfl rfl ?_ | (show Jo _ (.slice 62 _ (some _) (some _) none); refine jy (yslLH (n := l.start) (n' := l.pos) rfl rfl rfl und59 sz5 rfl rfl hs (by omega) rfl rfl rfl) rfl rfl ?_)))
  exact ret1 rfl rfl rfl (fun w' hw' => ⟨_, rfl, hw'.2.below (fun k _ h => h) (Nat.le_refl _)⟩)
theorem cur_st {X : Cx} {H : Hd} {E : Mem} (hX : Ok X H) (x : Lx) (st : Value) (W : Nat) (dv its : Value) (hs : x.start ≤ x.pos) (hp : x.pos ≤ H.s.length) : ∀ w, Cl X (lB H (lsOf x st W dv its) :: E) w → Calls Tryz.prog 161 #[pL H] w fun e w' => ∃ v : Value, e = .returned v ∧ Cl X (lB H (lsOf x st W dv its) :: E) w' ∧ True := fun w hw =>
  (current_calls (l := lsOf x st W dv its) (hw.1.sub (List.Sublist.cons_cons _ (List.nil_sublist _))) hs hp hX.sz).mono fun e w' ⟨v, h1, h2⟩ => ⟨v, h1, hw.below h2, trivial⟩
set_option maxHeartbeats 1000000 in
theorem raw_calls {X : Cx} {H : Hd} {F G : Mem} (hX : Ok X H) {x : Lx} {q : RS} (hS : StOk X H x q G) (hf : x.items.length < 999999999000) (st : Value) (W gd : Nat) (ty : Nat) : ∀ w, Cl X (cM H x st W gd q F G) w → Calls Tryz.prog 150 #[pL H, .int .i64 ty] w (SR X H st gd F (raw H.s ty x)) := by
  intro w hw
  refine enterC 33 hw Tryz.func150 rfl rfl (vs := [pL H, .int .i64 ty]) rfl ?_
  replace hX := hX.sub hw 33
  replace hS := hS.sub 33 w
  conv => arg 2; arg 2; whnf
  repeat' (first | refine cseq ?_ | refine rtext ?_ | refine cblk ?_ | refine cscope ?_ | refine clabel ?_ | refine jnil ?_ | ((refine jas_ rfl rfl rfl ?_)))
  refine fin (f' := [(0, pL H), (1, .int .i64 ty), (5, .bool false)]) (m' := cM H { x with pos := x.pos, start := stAt x none } st W gd q F G)
    (cloop (ι := Nat × Option Nat × Nat × Bool) (fun u => [(0, pL H), (1, .int .i64 ty), (5, .bool u.2.2.2)]) (fun u => cM H { x with pos := u.1, start := stAt x u.2.1 } st u.2.2.1 gd q F G) (fun n u => n = H.s.length - u.1 ∧ u.1 ≤ H.s.length ∧ x.pos ≤ u.1 ∧ stAt x u.2.1 ≤ u.1 ∧ rLoop (H.s.drop x.pos) 0 none false = rLoop (H.s.drop u.1) (u.1 - x.pos) u.2.1 u.2.2.2) (H.s.length - x.pos) (x.pos, none, W, false) ⟨rfl, hS.p, Nat.le_refl _, hS.s, by rw [Nat.sub_self]⟩ ?_) ⟨rfl, rfl, rfl, trivial⟩ rfl
  rintro n ⟨p, so, W, op⟩ ⟨rfl, hp, hxp, hso, hrl⟩ K hK
  dsimp only at hp hxp hso hrl ⊢
  have hwl := wd_rest hp
  have hSp : StOk (X.sub 33 w) H { x with pos := p, start := stAt x so } q G := hS.mv rfl hp hso
  have hSe : StOk (X.sub 33 w) H (mv (wd (H.s.drop p)) { x with pos := p, start := stAt x so }) q G := hS.mv rfl hwl (Nat.le_trans hso (Nat.le_add_right _ _))
  by_cases hbq : rn (H.s.drop p) = 96
  · obtain ⟨hw1, hr2⟩ := rLoop_bq (p - x.pos) so op hbq
    rw [hr2] at hrl
    cases op
    · have hk := hK (H.s.length - (p + 1)) (p + 1, some (p - x.pos + 1), 1, true) (by dsimp only; omega) ⟨rfl, by dsimp only; omega, by dsimp only; omega, by dsimp only [stAt]; omega, by
        dsimp only
        rw [hrl, if_neg (by simp), List.drop_drop, show p + 1 - x.pos = p - x.pos + 1 by omega]⟩
      repeat' (first | refine cseq ?_ | refine rtext ?_ | refine ctrue rfl ?_ | refine cfalse rfl ?_ | refine cblk ?_ | refine tnorm ?_ | refine bnorm ?_ | refine jnil ?_ | (first | refine jmv rfl rfl rfl ?_ | refine jas_ rfl rfl rfl ?_ | (show Jo _ (.binOp _ _ _ _ _); refine jy (yeql rfl rfl (by (exact decide_eq_true (by omega)))) rfl rfl ?_) | (show Jo _ (.call _); first | (show Jo (some 8) (.call _); refine jcall0 (v := .int .i32 (rn (H.s.drop p))) (cM H (mv (wd (H.s.drop p)) { x with pos := p, start := stAt x so }) st (wd (H.s.drop p)) gd q F G) bo93 rfl rfl rfl (next_st hX { x with pos := p, start := stAt x so } st W _ _ hp) ?_) | (show Jo (some 16) (.call _); refine jcall0 (v := .tuple #[]) (cM H (ign (mv (wd (H.s.drop p)) { x with pos := p, start := stAt x so })) st (wd (H.s.drop p)) gd q F G) bo114 rfl rfl rfl (ign_st hX (mv (wd (H.s.drop p)) { x with pos := p, start := stAt x so }) st _ _ _) ?_))))
      refine pmem (m' := cM H { x with pos := p + 1, start := stAt x (some (p - x.pos + 1)) } st 1 gd q F G) ?_ (fin hk ⟨rfl, rfl, rfl, trivial⟩ rfl)
      rw [hw1]
      show cM H { x with pos := p + 1, start := x.pos + (p - x.pos + 1) } st 1 gd q F G = cM H { x with pos := p + 1, start := p + 1 } st 1 gd q F G
      rw [show x.pos + (p - x.pos + 1) = p + 1 by omega]
    · rw [if_pos rfl] at hrl
      have e1 : raw H.s ty x = (ign (mv 1 (emitS ty { x with pos := p, start := stAt x so })), some .inside) := by
        unfold raw
        rw [hrl]
        dsimp only
        rw [if_neg (by simp), show x.pos + (p - x.pos) = p by omega]
      rw [e1]
      repeat' (first | refine cseq ?_ | refine rtext ?_ | refine ctrue rfl ?_ | refine cblk ?_ | refine cret ?_ | refine cexit ?_ | (show PJ _ (Exit.noGoto _ _) _ _; (refine gret ?_)) | refine jnil ?_ | (first | refine jmv rfl rfl rfl ?_ | refine jas_ rfl rfl rfl ?_ | (show Jo _ (.binOp _ _ _ _ _); refine jy (yeql rfl rfl (by (exact decide_eq_true (by omega)))) rfl rfl ?_) | (show Jo _ (.call _); first | (show Jo (some 8) (.call _); refine jcall0 (v := .int .i32 (rn (H.s.drop p))) (cM H (mv (wd (H.s.drop p)) { x with pos := p, start := stAt x so }) st (wd (H.s.drop p)) gd q F G) bo93 rfl rfl rfl (next_st hX { x with pos := p, start := stAt x so } st W _ _ hp) ?_) | (show Jo (some 14) (.call _); refine jcall0 (v := .tuple #[]) (cM H { x with pos := p, start := stAt x so } st (wd (H.s.drop p)) gd q F G) bo117 rfl rfl rfl (back_st hX { x with pos := p, start := stAt x so } st _ _ (wd (H.s.drop p)) hwl) ?_) | (show Jo (some 28) (.call _); refine jcall (ι := RS) (vs := [pL H, .int .i64 ty]) (v := fun _ => .tuple #[]) (m' := fun q' => cM H (emitS ty { x with pos := p, start := stAt x so }) st (wd (H.s.drop p)) gd q' F G) (fun q' => StOk _ H (emitS ty { x with pos := p, start := stAt x so }) q' G) bo185 rfl rfl rfl (emitS_st hX { x with pos := p, start := stAt x so } st _ _ hSp (by dsimp only; omega) ty) (fun q1 hS1 => ?_)) | (show Jo (some 30) (.call _); refine jcall0 (v := .int .i32 (rn (H.s.drop p))) (cM H (mv (wd (H.s.drop p)) (emitS ty { x with pos := p, start := stAt x so })) st (wd (H.s.drop p)) gd q1 F G) bo93 rfl rfl rfl (next_st hX (emitS ty { x with pos := p, start := stAt x so }) st _ _ _ hp) ?_) | (show Jo (some 32) (.call _); refine jcall0 (v := .tuple #[]) (cM H (ign (mv (wd (H.s.drop p)) (emitS ty { x with pos := p, start := stAt x so }))) st (wd (H.s.drop p)) gd q1 F G) bo114 rfl rfl rfl (ign_st hX (mv (wd (H.s.drop p)) (emitS ty { x with pos := p, start := stAt x so })) st _ _ _) ?_))))
      refine ret1 rfl rfl rfl (fun w' hw' => ⟨q1, 1, G, rfl, ?_, (StOk.up hw hS1).mv rfl (by dsimp only [ign, mv, emitS]; omega) (Nat.le_refl _)⟩)
      have h1 := hw.up hw'
      rw [hw1] at h1
      exact h1
  · rcases Decidable.em (rn (H.s.drop p) = -1) with hn1 | hn1
    · have hnil := rn_neg.1 hn1
      have e1 : raw H.s ty x = (errI { x with pos := p, start := stAt x so }, none) := by
        unfold raw
        rw [hrl, hnil]
        unfold rLoop
        dsimp only
        rw [if_pos rfl, show x.pos + (p - x.pos) = p by omega]
        rfl
      have hw0 : wd (H.s.drop p) = 0 := by rw [hnil]; rfl
      rw [e1]
      repeat' (first | refine cseq ?_ | refine rtext ?_ | refine ctrue rfl ?_ | refine cfalse rfl ?_ | refine cblk ?_ | refine cret ?_ | refine tret ?_ | refine bret ?_ | (show PJ _ (Exit.noGoto _ _) _ _; (refine gret ?_)) | refine jnil ?_ | (first | refine jmv rfl rfl rfl ?_ | refine jas_ rfl rfl rfl ?_ | (show Jo _ (.binOp _ _ _ _ _); (refine jy (yeql rfl rfl (by first | exact decide_eq_true (by omega) | exact decide_eq_false (by omega))) rfl rfl ?_)) | (show Jo _ (.call _); first | (show Jo (some 8) (.call _); refine jcall0 (v := .int .i32 (rn (H.s.drop p))) (cM H (mv (wd (H.s.drop p)) { x with pos := p, start := stAt x so }) st (wd (H.s.drop p)) gd q F G) bo93 rfl rfl rfl (next_st hX { x with pos := p, start := stAt x so } st W _ _ hp) ?_) | (show Jo (some 22) (.call _); refine jcall (ι := Value) (v := fun v => v) (m' := fun _ => cM H (mv (wd (H.s.drop p)) { x with pos := p, start := stAt x so }) st (wd (H.s.drop p)) gd q F G) (fun _ => True) bo183 rfl rfl rfl (cur_st hX (mv (wd (H.s.drop p)) { x with pos := p, start := stAt x so }) st _ _ _ (Nat.le_trans hso (Nat.le_add_right _ _)) hwl) (fun cv _ => ?_)) | (show Jo (some 25) (.call _); refine jcall (ι := RS) (v := fun _ => .nilFunc) (m' := fun q' => cM H (errI (mv (wd (H.s.drop p)) { x with pos := p, start := stAt x so })) st (wd (H.s.drop p)) gd q' F G) (fun q' => StOk _ H (errI (mv (wd (H.s.drop p)) { x with pos := p, start := stAt x so })) q' G) bo112 rfl rfl rfl (err_st hX hSe st _ _ (by dsimp only [mv]; omega) _ _) (fun q1 hS1 => ?_))) | (show Jo _ (.makeInterface 62 _); refine jy (ymkI rfl co59) rfl rfl ?_) | (show Jo _ (.buildSlice 130 _ _); refine jlitN (n := 1) (vs := [.iface 62 _]) rfl rfl rfl rfl gr153 rfl rfl rfl rfl (fun gz hTz => ?_); refine jless (List.sublist_cons_self _ _) ?_)))
      refine ret1 rfl rfl rfl (fun w' hw' => ⟨q1, 0, G, rfl, ?_, ?_⟩)
      · have h1 := hw.up hw'
        rw [hw0] at h1
        exact h1
      · have h2 := StOk.up hw hS1
        rw [hw0] at h2
        exact h2
    · have hne : H.s.drop p ≠ [] := fun h => hn1 (rn_neg.2 h)
      have hw1 := wd_pos hne
      have hk := hK (H.s.length - (p + wd (H.s.drop p))) (p + wd (H.s.drop p), so, wd (H.s.drop p), op) (by dsimp only; omega) ⟨rfl, hwl, by dsimp only; omega, by dsimp only; omega, by
        dsimp only
        rw [hrl, rLoop_step _ _ _ hne hbq, drop_wd, show p + wd (H.s.drop p) - x.pos = p - x.pos + wd (H.s.drop p) by omega]⟩
      repeat' (first | refine cseq ?_ | refine rtext ?_ | refine cfalse rfl ?_ | refine cskip ?_ | refine cblk ?_ | refine tnorm ?_ | refine bnorm ?_ | refine jnil ?_ | (first | refine jmv rfl rfl rfl ?_ | refine jas_ rfl rfl rfl ?_ | (show Jo _ (.binOp _ _ _ _ _); refine jy (yeql rfl rfl (by (exact decide_eq_false (by omega)))) rfl rfl ?_) | (show Jo _ (.call _); ((show Jo (some 8) (.call _); refine jcall0 (v := .int .i32 (rn (H.s.drop p))) (cM H (mv (wd (H.s.drop p)) { x with pos := p, start := stAt x so }) st (wd (H.s.drop p)) gd q F G) bo93 rfl rfl rfl (next_st hX { x with pos := p, start := stAt x so } st W _ _ hp) ?_)))))
      exact fin hk ⟨rfl, rfl, rfl, trivial⟩ rfl
end Go.Proofs.YtkehggbmpdacpabGreatDoor.Pg
