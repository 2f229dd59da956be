/- The page laws: texts that all of them use, joined (part 6): Pg21, Pg22. -/
import Derived.Test.YtkehggbmpdacpabGreatDoorKp5
set_option maxRecDepth 100000
set_option linter.unusedVariables false
set_option linter.unusedSimpArgs false
set_option linter.unusedSectionVars false
namespace Go.Proofs.YtkehggbmpdacpabGreatDoor.Pg
open Go.Rx hiding bt
open Go.RowKit Go.Proofs.YtkehggbmpdacpabGreatDoor.Dec0 Go.Proofs.YtkehggbmpdacpabGreatDoor.Lex0
def firstR : Code → Option Nat
  | .region i _ _ => some i
  | .seq x _ => firstR x
  | .block _ c => firstR c
  | .loop c => firstR c
  | .scope c => firstR c
  | _ => none
def isR (k : Nat) (c : Code) : Bool := match firstR c with
  | some i => Nat.beq i k
  | none => false
def outAt (k : Nat) : Code → Option Code
  | .seq x y => bif isR k x then some (.seq x y) else match outAt k x with
    | some c => some c
    | none => outAt k y
  | .cond _ x y => match outAt k x with
    | some c => some c
    | none => outAt k y
  | .block _ c => outAt k c
  | .loop c => outAt k c
  | .scope c => outAt k c
  | _ => none
def codeOut (fn : Func) (k : Nat) : Code := ((fn.body.bind (outAt k))).getD .skip
theorem bo184 : bodyB Tryz.prog 162 = true := by kernel_rfl
theorem gr86 : growB Tryz.prog 76 104 2 16 = true := by kernel_rfl
theorem bu126 (a b : Int) : Tryz.prog.built 104 [(0, .int .i64 a), (1, .int .i64 b)] = some [.int .i64 a, .int .i64 b].toArray := by kernel_rfl
theorem segC_app (a b : List (Nat × Nat)) : segC (a ++ b) = segC a ++ segC b := by
  induction a with
  | nil => rfl
  | cons p a ih => show _ :: _ :: segC (a ++ b) = _; rw [ih]; rfl
theorem segsL_drop : ∀ (n : Nat) (l : T) (k i : Nat), n ≤ l.length → (∀ j, j < n → 128 ≤ gb l j) → segsL l k i = segsL (l.drop n) k (i + n) := by
  intro n
  induction n with
  | zero => intro l k i _ _; simp
  | succ n ih =>
    intro l k i hl hb
    cases l with
    | nil => simp at hl
    | cons c r =>
      have h0 : 128 ≤ c.toNat := hb 0 (Nat.succ_pos n)
      rw [segsL, if_neg (fun e => by subst e; exact absurd h0 (by decide)), ih r k (i + 1) (by simpa using hl) (fun j hj => hb (j + 1) (by omega)), List.drop_succ_cons]
      congr 1
      omega
theorem segsL_rune {l : T} (k i : Nat) (hl : l ≠ []) (h1 : rn l ≠ 92) : segsL l k i = segsL (l.drop (wd l)) k (i + wd l) := by
  cases l with
  | nil => exact absurd rfl hl
  | cons c r =>
    rcases rn_cons c r with ⟨ha, hb, hc⟩ | ⟨ha, hb⟩
    · rw [hc, segsL, if_neg (fun e => h1 (by subst e; exact hb))]
      rfl
    · have hw : wd (c :: r) = (dec (c :: r)).2 := by unfold wd; rw [if_neg (by simp)]
      have hd := dec_wide (l := c :: r) ha
      rw [hw]
      exact segsL_drop _ _ k i hd.2.1 hd.2.2
theorem segsL_esc {l : T} (k i : Nat) (h1 : rn l = 92) : wd l = 1 ∧ segsL l k i = if k < i then (k, i) :: segsL (l.drop 1) (i + 1) (i + 1) else segsL (l.drop 1) (i + 1) (i + 1) := by
  obtain ⟨r, h2, h3⟩ := rn_head (k := 92) (by decide) h1
  refine ⟨h3, ?_⟩
  rw [h2, segsL, if_pos rfl]
  rfl
theorem cut_drop (s : T) (a b n : Nat) : (cut s a b).drop n = cut s (a + n) b := by
  unfold cut
  rw [List.drop_take, List.drop_drop]
  congr 1
  omega
def RM (r : Row) (sg : List (Nat × Nat)) : Mem := r.mem (segC sg) 104
theorem ie12 {Z X : Cx} {H : Hd} {F G : Mem} {w : World} {m0 : Mem} (hZ : Z = X.sub 83 w) (hw : Cl X m0 w) (hX : Ok Z H) {x : Lx} {q : RS} (hS : StOk Z H x q G) (hf : x.items.length < 999999999000) (st : Value) (W gd t : Nat) (r : Row) (sg : List (Nat × Nat)) (hsg : segsL (cut H.s x.start x.pos) x.start x.start = sg) (hr : r.ok 0 2 sg.length (segC sg)) :
    PJ Z ((codeOut Tryz.f162 12).wp Tryz.prog (bodyPost Tryz.prog Tryz.f162 (fun e w' => ∃ u : RS × Mem, e = .returned (.tuple #[]) ∧ Cl X (cM H (emitE t H.s x) st W gd u.1 F u.2) w' ∧ StOk X H (emitE t H.s x) u.1 u.2))) [(0, pL H), (1, .int .i64 t), (8, r.val sg.length)] (cM H x st W gd q F (RM r sg ++ G)) := by
  subst hZ
  have hs0 := hS.s
  conv => arg 2; arg 2; whnf
  cases sg with
  | nil =>
    have e1 : emitE t H.s x = ign x := by unfold emitE; rw [if_pos hsg]
    rw [e1]
    obtain ⟨A, cap, hv⟩ : ∃ A cap, r.val ([] : List (Nat × Nat)).length = .slice A 0 cap := by
      cases r with
      | nil => exact ⟨none, 0, rfl⟩
      | «at» g cap rr => exact ⟨some ⟨g, 0, none⟩, cap, rfl⟩
    rw [hv]
    repeat' (first | refine cseq ?_ | refine rtext ?_ | refine cfalse rfl ?_ | refine cskip ?_ | refine jnil ?_ | (first | refine jmv rfl rfl rfl ?_ | refine jy (ynil rfl) rfl rfl ?_ | (show Jo _ (.fieldAddr _ _ _); refine jy (yfield rfl (by first | exact fb110_3 | exact fb110_4) rfl) rfl rfl ?_) | (show Jo _ (.load _ _); refine jy (yload (i := 0) rfl rfl rfl one3) rfl rfl ?_) | (show Jo _ (.binOp _ _ _ _ _); ((show Jo _ (.binOp .gtr _ _ _ _); refine jy (ygtr rfl rfl (by (exact decide_eq_false (by (try dsimp only [lsOf, mv, ign, emitL]); omega)))) rfl rfl ?_))) | (show Jo _ (.store _ _ _); refine jstore (i := 0) rfl rfl rfl rfl rfl si3 hX.mL ?_) | (show Jo _ (.call _); ((show Jo _ (.call ⟨.builtin .len, _, _⟩); refine jy (ylenl rfl und86) rfl rfl ?_)))))
    exact end0 rfl rfl (fun w' hw' => ⟨(q, RM r [] ++ G), rfl, hw.up hw', ⟨(StOk.up hw hS).ok, hS.n, hS.ics.mono (fun b hb => List.mem_append_right _ hb), hS.p, Nat.le_refl _⟩⟩)
  | cons p sg' =>
    obtain ⟨m, hm⟩ : ∃ m, m = sg'.length := ⟨_, rfl⟩
    have hml : (p :: sg').length = m + 1 := by rw [hm]; rfl
    rw [hml] at hr ⊢
    cases r with
    | nil => exact absurd hr.1 (Nat.succ_ne_zero _)
    | «at» g cap rr =>
      obtain ⟨sg, hsge⟩ : ∃ sg, sg = p :: sg' := ⟨_, rfl⟩
      rw [← hsge] at hsg ⊢
      obtain ⟨p0, hp0⟩ : ∃ p0, p0 = p.1 := ⟨_, rfl⟩
      obtain ⟨cs0, hcs0⟩ : ∃ cs0, segC sg ++ rr = .int .i64 p0 :: cs0 := ⟨_, by rw [hsge, hp0]; rfl⟩
      have hmem : (g, (.int .i64 (p0 : Nat) :: cs0 : List Value), Bk.c 104) ∈ eM H x gd F ([(g, segC sg ++ rr, Bk.c 104)] ++ G) := by
        rw [← hcs0]
        exact List.mem_cons_of_mem _ (List.mem_cons_of_mem _ (List.mem_append_right _ (List.mem_append_left _ (List.mem_singleton.2 rfl))))
      have hne : sg ≠ [] := by rw [hsge]; simp
      have e1 : emitE t H.s x = { x with items := x.items ++ [⟨t, 0, 0, sg, false, false⟩], start := x.pos } := by unfold emitE; rw [hsg, if_neg hne]
      rw [e1]
      have e2 : (Row.at g cap rr).val (m + 1) = .slice (some ⟨g, 0, none⟩) (m + 1) cap := rfl
      have e3 : RM (Row.at g cap rr) sg = [(g, segC sg ++ rr, Bk.c 104)] := rfl
      rw [e2, e3]
      repeat' (first | refine cseq ?_ | refine rtext ?_ | refine ctrue rfl ?_ | refine jnil ?_ | (first | refine jmv rfl rfl rfl ?_ | refine jy (ynil rfl) rfl rfl ?_ | (show Jo _ (.fieldAddr _ _ _); refine jy (yfield rfl (by first | exact fb110_3 | exact fb110_4) rfl) rfl rfl ?_) | (show Jo _ (.load _ _); refine jy (yload (i := 0) rfl rfl rfl one3) rfl rfl ?_) | (show Jo _ (.binOp _ _ _ _ _); ((show Jo _ (.binOp .gtr _ _ _ _); refine jy (ygtr rfl rfl (by (exact decide_eq_true (by (try dsimp only [lsOf, mv, ign, emitL]); omega)))) rfl rfl ?_))) | (show Jo _ (.store _ _ _); refine jstore (i := 0) rfl rfl rfl rfl rfl si3 hX.mL ?_) | (show Jo _ (.call _); first | (show Jo _ (.call ⟨.builtin .len, _, _⟩); refine jy (ylenl rfl und86) rfl rfl ?_) | (show Jo (some 75) (.call _); refine jcall (ι := RS) (vs := [pL H, .agg (itC t .nilIface 0 0 (.slice (some ⟨g, 0, none⟩) (m + 1) cap) 0 false).toArray]) (v := fun _ => .tuple #[]) (m' := fun q' => lB H { lsOf x st W (fV gd (divr x.org)) q.val with its := q'.val } :: iB H :: qB q' :: eM H x gd F ([(g, segC sg ++ rr, Bk.c 104)] ++ G)) (fun q' => QOk _ q' ∧ q'.ics = q.ics ++ itC t .nilIface 0 0 (.slice (some ⟨g, 0, none⟩) (m + 1) cap) (fbN H.s p0) false ∧ q'.n = q.n + 1) bo129 rfl rfl rfl (fun w' hw' => append_calls (E := eM H x gd F ([(g, segC sg ++ rr, Bk.c 104)] ++ G)) hX (lsOf x st W (fV gd (divr x.org)) q.val) q hS.ok rfl (by rw [hS.n]; omega) (p := p0) (.inr ⟨g, m, cap, cs0, rfl, hmem⟩) rfl rfl w' hw') (fun q1 hq1 => ?_); obtain ⟨hq1, hc1, hn1⟩ := hq1)) | (show Jo _ (.build 78 _); refine jy (ybuild rfl (bu88g _ _ _ _)) rfl rfl ?_)))
      refine end0 rfl rfl (fun w' hw' => ⟨(q1, [(g, segC sg ++ rr, Bk.c 104)] ++ G), rfl, hw.up hw', ⟨(QOk.up hw hq1), by rw [hn1, hS.n]; simp, ?_, hS.p, Nat.le_refl _⟩⟩)
      rw [hc1]
      refine (hS.ics.mono (fun b hb => List.mem_append_right _ hb)).app ?_
      have := ICS.cons (s := H.s) (G := [(g, segC sg ++ rr, Bk.c 104)] ++ G) (it := ⟨t, 0, 0, sg, false, false⟩) (c := itC t .nilIface 0 0 (.slice (some ⟨g, 0, none⟩) (m + 1) cap) (fbN H.s p0) false) ⟨.nilIface, _, by rw [show ipos ⟨t, 0, 0, sg, false, false⟩ = p0 from by rw [hsge, hp0]; rfl], fun _ => rfl, fun h => (by cases h), .inr ⟨g, cap, rr, hne, by rw [show sg.length = m + 1 from by rw [hsge]; exact hml], List.mem_append_left _ (List.mem_singleton.2 rfl)⟩⟩ ICS.nil
      rw [List.append_nil] at this
      exact this
set_option maxHeartbeats 2000000 in
theorem igEsc_calls {X : Cx} {H : Hd} {F G : Mem} (hX : Ok X H) (hl32 : H.s.length ≤ 4294967296) {x : Lx} {q : RS} (hS : StOk X H x q G) (hf : x.items.length < 999999999000) (st : Value) (W gd t : Nat) : ∀ w, Cl X (cM H x st W gd q F G) w →
    Calls Tryz.prog 162 #[pL H, .int .i64 t, .bool true] w fun e w' => ∃ u : RS × Mem, e = .returned (.tuple #[]) ∧ Cl X (cM H (emitE t H.s x) st W gd u.1 F u.2) w' ∧ StOk X H (emitE t H.s x) u.1 u.2 := by
  intro w hw
  refine enterC 83 hw Tryz.func162 rfl rfl (vs := [pL H, .int .i64 t, .bool true]) rfl ?_
  replace hX := hX.sub hw 83
  replace hS := hS.sub 83 w
  have hbig := hX.big
  have hsz := hX.sz
  have hs0 := hS.s
  have hpp := hS.p
  conv => arg 2; arg 2; whnf
  repeat' (first | refine cseq ?_ | refine rtext ?_ | refine cblk ?_ | refine jnil ?_ | (first | refine jmv rfl rfl rfl ?_ | refine jy (ynil rfl) rfl rfl ?_ | (show Jo _ (.fieldAddr _ _ _); refine jy (yfield rfl fb110_4 rfl) rfl rfl ?_) | (show Jo _ (.load _ _); refine jy (yload (i := 0) rfl rfl rfl one3) rfl rfl ?_) | refine jas_ rfl rfl rfl ?_))
  refine fin (f' := [(0, pL H), (1, .int .i64 t), (6, .int .i64 x.start), (7, .int .i64 x.start), (8, Row.nil.val 0)]) (m' := cM H x st W gd q F (RM .nil [] ++ G))
    (cloop (ι := Nat × Nat × Row × List (Nat × Nat)) (fun u => [(0, pL H), (1, .int .i64 t), (6, .int .i64 u.1), (7, .int .i64 u.2.1), (8, u.2.2.1.val u.2.2.2.length)]) (fun u => cM H x st W gd q F (RM u.2.2.1 u.2.2.2 ++ G)) (fun n u => n = x.pos - u.1 ∧ x.start ≤ u.2.1 ∧ u.2.1 ≤ u.1 ∧ u.1 ≤ x.pos ∧ segsL (cut H.s x.start x.pos) x.start x.start = u.2.2.2 ++ segsL (cut H.s u.1 x.pos) u.2.1 u.1 ∧ u.2.2.1.ok 0 2 u.2.2.2.length (segC u.2.2.2) ∧ u.2.2.1.may (X.sub 83 w) ∧ u.2.2.2.length ≤ u.1) (x.pos - x.start) (x.start, x.start, .nil, []) ⟨rfl, Nat.le_refl _, Nat.le_refl _, hs0, rfl, ⟨rfl, rfl⟩, trivial, Nat.zero_le _⟩ ?_) ⟨rfl, rfl, rfl, rfl, rfl, trivial⟩ rfl
  rintro n ⟨i, k, r, sg⟩ ⟨rfl, hsk, hki, hip, hsg, hr, hmr, hsl⟩ K hK
  dsimp only at hsk hki hip hsg hr hmr hsl ⊢
  by_cases hlt : i < x.pos
  · have hcl := cut_len (s := H.s) (a := i) (b := x.pos) hpp
    have hne : cut H.s i x.pos ≠ [] := fun h => by rw [h] at hcl; simp at hcl; omega
    have hwp := wd_pos hne
    have hwl := wd_le (cut H.s i x.pos)
    rw [hcl] at hwl
    rcases Decidable.em (rn (cut H.s i x.pos) = 92) with h92 | h92
    · obtain ⟨hw1, hse⟩ := segsL_esc k i h92
      rw [cut_drop] at hse
      by_cases hlk : k < i
      · rw [if_pos hlk] at hse
        have hk := fun (r' : Row) h1 h2 => hK (x.pos - (i + 1)) (i + 1, i + 1, r', sg ++ [(k, i)]) (by dsimp only; omega) ⟨rfl, by dsimp only; omega, Nat.le_refl _, by dsimp only; omega, by dsimp only; rw [hsg, hse, List.append_assoc]; rfl, h1, h2, by simp; omega⟩
        repeat' ((fail_if_success (show PJ _ (Code.wp _ (Code.seq (Code.seq (Code.region 12 _ _) _) _) _) _ _)); (first | (show PJ _ (Code.wp _ _ _) _ _; first | refine cseq ?_ | refine rtext ?_ | refine ctrue rfl ?_ | refine cskip ?_ | refine cblk ?_ | refine rquiet mixed (by kernel_rfl) ?_) | refine tnorm ?_ | refine bnorm ?_ | refine jnil ?_ | (first | refine jmv rfl rfl rfl ?_ | refine jy (ynil rfl) rfl rfl ?_ | (show Jo _ (.fieldAddr _ _ _); refine jy (yfield rfl (by first | exact fb110_3 | exact fb110_0) rfl) rfl rfl ?_) | (show Jo _ (.load _ _); refine jy (yload (i := 0) rfl rfl rfl one3) rfl rfl ?_) | refine jas_ rfl rfl rfl ?_ | (show Jo _ (.binOp _ _ _ _ _); first | (show Jo _ (.binOp .gtr _ _ _ _); refine jy (ygtr rfl rfl (by (exact decide_eq_true (by (try dsimp only [lsOf, mv, ign, emitL]); omega)))) rfl rfl ?_) | (show Jo _ (.binOp .lss _ _ _ _); refine jy (ylss rfl rfl (by (exact decide_eq_true (by (try dsimp only [lsOf, mv, ign, emitL]); omega)))) rfl rfl ?_) | refine jy (yadd (c := ((i + wd (cut H.s i x.pos) : Nat) : Int)) rfl rfl ((i64_in (by omega) (by omega)).trans (by omega))) rfl rfl ?_ | refine jy (yeql rfl rfl (by (exact decide_eq_true (by omega)))) rfl rfl ?_) | (show Jo _ (.call _); first | (show Jo (some 33) (.call _); refine jcallq (v := .tuple #[.int .i32 (rn (cut H.s i x.pos)), .int .i64 (wd (cut H.s i x.pos))]) bo111 rfl rfl rfl (quietC fun w' hw' => dec_calls (hX.tab hw').utf8 ((inp_byt hw'.1 (.tail _ (.head _)) hX.sz).sub i (x.pos - i) (by omega)) hne) ?_) | (show Jo _ (.call ⟨.builtin .append, _, _⟩); refine jappendP (k := 1) (size := 2) (r := r) (B := 0) (n := sg.length) (xs := segC sg) (news := [.int .i64 k, .int .i64 i]) ((gl, [.int .i64 k, .int .i64 i], Bk.c 104) :: cM H x st W gd q F G) (fun r' => (gl, [.int .i64 k, .int .i64 i], Bk.c 104) :: cM H x st W gd q F (r'.mem (segC sg ++ [.int .i64 k, .int .i64 i]) 104 ++ G)) (perm_row ((gl, [.int .i64 k, .int .i64 i], Bk.c 104) :: lB H (lsOf x st W (fV gd (divr x.org)) q.val) :: iB H :: qB q :: mB H x.op :: fB gd (divr x.org) :: F) (RM r sg) G) (fun r' => (perm_row ((gl, [.int .i64 k, .int .i64 i], Bk.c 104) :: lB H (lsOf x st W (fV gd (divr x.org)) q.val) :: iB H :: qB q :: mB H x.op :: fB gd (divr x.org) :: F) _ G).symm) rfl rfl (src_blk (i := 0) 0 rfl (add_zero _) (fun j u hj => by rw [show 0 + j = j from Nat.zero_add j]; exact hj)) rfl (by intro u hu; simp only [List.mem_cons, List.not_mem_nil, or_false] at hu; rcases hu with rfl | rfl <;> rfl) hr (Nat.zero_le _) hmr gr86 (by omega) (by simp only [maxLen]; omega) (by omega) rfl (fun r' hr' hmr' => ?_); refine jless (List.sublist_cons_self _ _) ?_)) | (show Jo _ (.extract _ _); refine jy (yextractL rfl rfl) rfl rfl ?_) | (show Jo _ (.slice 62 _ (some _) (some _) none); refine jy (yslLH (n := i) (n' := x.pos) (kk := x.pos - i) rfl rfl rfl und59 sz5 rfl rfl (by omega) (by omega) rfl rfl rfl) rfl rfl ?_) | (show Jo _ (.build 104 _); refine jy (ybuild rfl (bu126 _ _)) rfl rfl ?_) | (show Jo _ (.buildSlice 76 1 _); refine jlit1 (c := [.int .i64 k, .int .i64 i]) rfl rfl rfl gr86 rfl rfl rfl (fun gl hTl => ?_)))))
        rw [hw1]
        refine pmem (m' := cM H x st W gd q F (RM r' (sg ++ [(k, i)]) ++ G)) (by unfold RM; rw [segC_app]; rfl) (fin (hk r' (by rw [segC_app, List.length_append]; exact hr') hmr') ⟨rfl, rfl, rfl, rfl, by rw [List.length_append]; rfl, trivial⟩ rfl)
      · rw [if_neg hlk] at hse
        have hk := hK (x.pos - (i + 1)) (i + 1, i + 1, r, sg) (by dsimp only; omega) ⟨rfl, by dsimp only; omega, Nat.le_refl _, by dsimp only; omega, by dsimp only; rw [hsg, hse], hr, hmr, by dsimp only; omega⟩
        repeat' ((fail_if_success (show PJ _ (Code.wp _ (Code.seq (Code.seq (Code.region 12 _ _) _) _) _) _ _)); (first | (show PJ _ (Code.wp _ _ _) _ _; first | refine cseq ?_ | refine rtext ?_ | refine ctrue rfl ?_ | refine cfalse rfl ?_ | refine cskip ?_ | refine cblk ?_ | refine rquiet mixed (by kernel_rfl) ?_) | refine tnorm ?_ | refine bnorm ?_ | refine jnil ?_ | (first | refine jmv rfl rfl rfl ?_ | refine jy (ynil rfl) rfl rfl ?_ | (show Jo _ (.fieldAddr _ _ _); refine jy (yfield rfl (by first | exact fb110_3 | exact fb110_0) rfl) rfl rfl ?_) | (show Jo _ (.load _ _); refine jy (yload (i := 0) rfl rfl rfl one3) rfl rfl ?_) | refine jas_ rfl rfl rfl ?_ | (show Jo _ (.binOp _ _ _ _ _); first | (show Jo _ (.binOp .gtr _ _ _ _); refine jy (ygtr rfl rfl (by (exact decide_eq_false (by (try dsimp only [lsOf, mv, ign, emitL]); omega)))) rfl rfl ?_) | (show Jo _ (.binOp .lss _ _ _ _); refine jy (ylss rfl rfl (by (exact decide_eq_true (by (try dsimp only [lsOf, mv, ign, emitL]); omega)))) rfl rfl ?_) | refine jy (yadd (c := ((i + wd (cut H.s i x.pos) : Nat) : Int)) rfl rfl ((i64_in (by omega) (by omega)).trans (by omega))) rfl rfl ?_ | refine jy (yeql rfl rfl (by (exact decide_eq_true (by omega)))) rfl rfl ?_) | (show Jo _ (.call _); ((show Jo (some 33) (.call _); refine jcallq (v := .tuple #[.int .i32 (rn (cut H.s i x.pos)), .int .i64 (wd (cut H.s i x.pos))]) bo111 rfl rfl rfl (quietC fun w' hw' => dec_calls (hX.tab hw').utf8 ((inp_byt hw'.1 (.tail _ (.head _)) hX.sz).sub i (x.pos - i) (by omega)) hne) ?_))) | (show Jo _ (.extract _ _); refine jy (yextractL rfl rfl) rfl rfl ?_) | (show Jo _ (.slice 62 _ (some _) (some _) none); refine jy (yslLH (n := i) (n' := x.pos) (kk := x.pos - i) rfl rfl rfl und59 sz5 rfl rfl (by omega) (by omega) rfl rfl rfl) rfl rfl ?_))))
        rw [hw1]
        exact fin hk ⟨rfl, rfl, rfl, rfl, rfl, trivial⟩ rfl
    · have hse := segsL_rune k i hne h92
      rw [cut_drop] at hse
      have hk := hK (x.pos - (i + wd (cut H.s i x.pos))) (i + wd (cut H.s i x.pos), k, r, sg) (by dsimp only; omega) ⟨rfl, hsk, by dsimp only; omega, by dsimp only; omega, by dsimp only; rw [hsg, hse], hr, hmr, by dsimp only; omega⟩
      repeat' ((fail_if_success (show PJ _ (Code.wp _ (Code.seq (Code.seq (Code.region 12 _ _) _) _) _) _ _)); (first | (show PJ _ (Code.wp _ _ _) _ _; first | refine cseq ?_ | refine rtext ?_ | refine ctrue rfl ?_ | refine cfalse rfl ?_ | refine cskip ?_ | refine cblk ?_ | refine rquiet mixed (by kernel_rfl) ?_) | refine tnorm ?_ | refine bnorm ?_ | refine jnil ?_ | (first | refine jmv rfl rfl rfl ?_ | refine jy (ynil rfl) rfl rfl ?_ | (show Jo _ (.fieldAddr _ _ _); refine jy (yfield rfl (by first | exact fb110_3 | exact fb110_0) rfl) rfl rfl ?_) | (show Jo _ (.load _ _); refine jy (yload (i := 0) rfl rfl rfl one3) rfl rfl ?_) | refine jas_ rfl rfl rfl ?_ | (show Jo _ (.binOp _ _ _ _ _); first | (show Jo _ (.binOp .lss _ _ _ _); refine jy (ylss rfl rfl (by (exact decide_eq_true (by (try dsimp only [lsOf, mv, ign, emitL]); omega)))) rfl rfl ?_) | refine jy (yadd (c := ((i + wd (cut H.s i x.pos) : Nat) : Int)) rfl rfl ((i64_in (by omega) (by omega)).trans (by omega))) rfl rfl ?_ | refine jy (yeql rfl rfl (by (exact decide_eq_false (by omega)))) rfl rfl ?_) | (show Jo _ (.call _); ((show Jo (some 33) (.call _); refine jcallq (v := .tuple #[.int .i32 (rn (cut H.s i x.pos)), .int .i64 (wd (cut H.s i x.pos))]) bo111 rfl rfl rfl (quietC fun w' hw' => dec_calls (hX.tab hw').utf8 ((inp_byt hw'.1 (.tail _ (.head _)) hX.sz).sub i (x.pos - i) (by omega)) hne) ?_))) | (show Jo _ (.extract _ _); refine jy (yextractL rfl rfl) rfl rfl ?_) | (show Jo _ (.slice 62 _ (some _) (some _) none); refine jy (yslLH (n := i) (n' := x.pos) (kk := x.pos - i) rfl rfl rfl und59 sz5 rfl rfl (by omega) (by omega) rfl rfl rfl) rfl rfl ?_))))
      exact fin hk ⟨rfl, rfl, rfl, rfl, rfl, trivial⟩ rfl
  · obtain rfl : i = x.pos := by omega
    have hce : cut H.s x.pos x.pos = [] := by unfold cut; simp
    rw [hce] at hsg
    by_cases hlk : k < x.pos
    · have hsg2 : segsL (cut H.s x.start x.pos) x.start x.start = sg ++ [(k, x.pos)] := by rw [hsg, segsL, if_pos hlk]
      repeat' ((fail_if_success (show PJ _ (Code.wp _ (Code.seq (Code.seq (Code.region 12 _ _) _) _) _) _ _)); (first | refine cseq ?_ | refine rtext ?_ | refine ctrue rfl ?_ | refine cfalse rfl ?_ | refine cexit ?_ | refine jnil ?_ | (first | refine jmv rfl rfl rfl ?_ | refine jy (ynil rfl) rfl rfl ?_ | (show Jo _ (.fieldAddr _ _ _); refine jy (yfield rfl fb110_3 rfl) rfl rfl ?_) | (show Jo _ (.load _ _); refine jy (yload (i := 0) rfl rfl rfl one3) rfl rfl ?_) | refine jas_ rfl rfl rfl ?_ | (show Jo _ (.binOp _ _ _ _ _); ((show Jo _ (.binOp .lss _ _ _ _); refine jy (ylss rfl rfl (by first | exact decide_eq_true (by (try dsimp only [lsOf, mv, ign, emitL]); omega) | exact decide_eq_false (by (try dsimp only [lsOf, mv, ign, emitL]); omega))) rfl rfl ?_))) | (show Jo _ (.call _); ((show Jo _ (.call ⟨.builtin .append, _, _⟩); refine jappendP (k := 1) (size := 2) (r := r) (B := 0) (n := sg.length) (xs := segC sg) (news := [.int .i64 k, .int .i64 x.pos]) ((gl, [.int .i64 k, .int .i64 x.pos], Bk.c 104) :: cM H x st W gd q F G) (fun r' => (gl, [.int .i64 k, .int .i64 x.pos], Bk.c 104) :: cM H x st W gd q F (r'.mem (segC sg ++ [.int .i64 k, .int .i64 x.pos]) 104 ++ G)) (perm_row ((gl, [.int .i64 k, .int .i64 x.pos], Bk.c 104) :: lB H (lsOf x st W (fV gd (divr x.org)) q.val) :: iB H :: qB q :: mB H x.op :: fB gd (divr x.org) :: F) (RM r sg) G) (fun r' => (perm_row ((gl, [.int .i64 k, .int .i64 x.pos], Bk.c 104) :: lB H (lsOf x st W (fV gd (divr x.org)) q.val) :: iB H :: qB q :: mB H x.op :: fB gd (divr x.org) :: F) _ G).symm) rfl rfl (src_blk (i := 0) 0 rfl (add_zero _) (fun j u hj => by rw [show 0 + j = j from Nat.zero_add j]; exact hj)) rfl (by intro u hu; simp only [List.mem_cons, List.not_mem_nil, or_false] at hu; rcases hu with rfl | rfl <;> rfl) hr (Nat.zero_le _) hmr gr86 (by omega) (by simp only [maxLen]; omega) (by omega) rfl (fun r' hr' hmr' => ?_); refine jless (List.sublist_cons_self _ _) ?_))) | (show Jo _ (.build 104 _); refine jy (ybuild rfl (bu126 _ _)) rfl rfl ?_) | (show Jo _ (.buildSlice 76 1 _); refine jlit1 (c := [.int .i64 k, .int .i64 x.pos]) rfl rfl rfl gr86 rfl rfl rfl (fun gl hTl => ?_)))))
      refine pmem (m' := cM H x st W gd q F (RM r' (sg ++ [(k, x.pos)]) ++ G)) (by unfold RM; rw [segC_app]; rfl) (fin (ie12 rfl hw hX hS hf st W gd t r' (sg ++ [(k, x.pos)]) hsg2 (by rw [segC_app, List.length_append]; exact hr')) ⟨rfl, rfl, by rw [List.length_append]; rfl, trivial⟩ rfl)
    · have hsg2 : segsL (cut H.s x.start x.pos) x.start x.start = sg := by rw [hsg, segsL, if_neg hlk, List.append_nil]
      repeat' ((fail_if_success (show PJ _ (Code.wp _ (Code.seq (Code.seq (Code.region 12 _ _) _) _) _) _ _)); (first | refine cseq ?_ | refine rtext ?_ | refine cfalse rfl ?_ | refine cskip ?_ | refine cexit ?_ | refine jnil ?_ | (first | refine jmv rfl rfl rfl ?_ | refine jy (ynil rfl) rfl rfl ?_ | (show Jo _ (.fieldAddr _ _ _); refine jy (yfield rfl fb110_3 rfl) rfl rfl ?_) | (show Jo _ (.load _ _); refine jy (yload (i := 0) rfl rfl rfl one3) rfl rfl ?_) | (show Jo _ (.binOp _ _ _ _ _); ((show Jo _ (.binOp .lss _ _ _ _); refine jy (ylss rfl rfl (by (exact decide_eq_false (by (try dsimp only [lsOf, mv, ign, emitL]); omega)))) rfl rfl ?_))))))
      exact fin (ie12 rfl hw hX hS hf st W gd t r sg hsg2 hr) ⟨rfl, rfl, rfl, trivial⟩ rfl
theorem bo171 : bodyB Tryz.prog 149 = true := by kernel_rfl
theorem rn_ne_lit {c k : UInt8} {r : T} (hk : k.toNat < 128) (h : c ≠ k) : rn (c :: r) ≠ (k.toNat : Int) := fun e => h ((rn_lit c k r hk).mp e)
theorem qEnd_eq (s : T) (z : Lx) : qEnd s z = if rn (s.drop z.pos) = 92 then (if rn (s.drop (z.pos + 1)) = 34 then ign (mv 2 z) else mv 1 z) else if rn (s.drop z.pos) = 34 then ign (mv 1 z) else z := by
  have h1 : s.drop (z.pos + 1) = (s.drop z.pos).drop 1 := by rw [List.drop_drop]
  rw [h1]
  unfold qEnd
  cases hd : s.drop z.pos with
  | nil => rfl
  | cons a r =>
    by_cases h92 : a = 92
    · subst h92
      rw [if_pos (show rn (92 :: r) = 92 from rn_ascii (by decide))]
      cases r with
      | nil => rfl
      | cons b r =>
        show _ = if rn (b :: r) = 34 then _ else _
        by_cases h34 : b = 34
        · subst h34
          rw [if_pos (show rn (34 :: r) = 34 from rn_ascii (by decide))]
          rfl
        · rw [if_neg (show ¬ rn (b :: r) = 34 from rn_ne_lit (k := 34) (by decide) h34)]
          split <;> simp_all
    · rw [if_neg (show ¬ rn (a :: r) = 92 from rn_ne_lit (k := 92) (by decide) h92)]
      by_cases h34 : a = 34
      · subst h34
        rw [if_pos (show rn (34 :: r) = 34 from rn_ascii (by decide))]
        rfl
      · rw [if_neg (show ¬ rn (a :: r) = 34 from rn_ne_lit (k := 34) (by decide) h34)]
        split <;> simp_all
theorem qLoop_drop (alw : Bool) : ∀ (k : Nat) (l : T) (n : Nat) (so : Option Nat) (oq esc est : Bool), k ≤ l.length → (∀ j, j < k → 128 ≤ gb l j) → qLoop alw l n so oq esc est = qLoop alw (l.drop k) (n + k) so oq esc est := by
  intro k
  induction k with
  | zero => intro l n so oq esc est _ _; simp
  | succ k ih =>
    intro l n so oq esc est hl hb
    cases l with
    | nil => simp at hl
    | cons c r =>
      have h0 : 128 ≤ c.toNat := hb 0 (Nat.succ_pos k)
      have hne : ∀ k : UInt8, k.toNat < 128 → c ≠ k := fun k hk e => by subst e; omega
      rw [qLoop, if_neg (hne 92 (by decide)), if_neg (hne 10 (by decide)), if_neg (hne 34 (by decide)), ih r (n + 1) so oq esc est (by simpa using hl) (fun j hj => hb (j + 1) (by omega)), List.drop_succ_cons]
      congr 1
      omega
theorem qLoop_rune {alw : Bool} {l : T} (n : Nat) (so : Option Nat) (oq esc est : Bool) (hl : l ≠ []) (h1 : rn l ≠ 92) (h2 : rn l ≠ 10) (h3 : rn l ≠ 34) : qLoop alw l n so oq esc est = qLoop alw (l.drop (wd l)) (n + wd l) so oq esc est := by
  cases l with
  | nil => exact absurd rfl hl
  | cons c r =>
    rcases rn_cons c r with ⟨ha, hb, hc⟩ | ⟨ha, hb⟩
    · rw [hc, qLoop, if_neg (fun e => h1 (by subst e; exact hb)), if_neg (fun e => h2 (by subst e; exact hb)), if_neg (fun e => h3 (by subst e; exact hb))]
      rfl
    · have hw : wd (c :: r) = (dec (c :: r)).2 := by unfold wd; rw [if_neg (by simp)]
      have hd := dec_wide (l := c :: r) ha
      rw [hw]
      exact qLoop_drop alw _ _ n so oq esc est hd.2.1 hd.2.2
theorem head_rn {r : T} {k : UInt8} (hk : k.toNat < 128) : (r.head? = some k) = (rn r = (k.toNat : Int)) := by
  cases r with
  | nil => simp; exact fun e => by have : (-1 : Int) = k.toNat := e; omega
  | cons c r => rw [rn_lit c k r hk]; simp
theorem qLoop_back (alw : Bool) (r : T) (n : Nat) (so : Option Nat) (oq esc est : Bool) : qLoop alw (92 :: r) n so oq esc est = if rn r = 34 then (if oq then (if alw then qLoop alw r (n + 1) so oq true true else (false, n, so, esc)) else qLoop alw r (n + 1) so oq esc est) else if rn r = 96 then (true, n + 1, so, esc) else qLoop alw r (n + 1) so oq esc est := by
  have h1 := head_rn (r := r) (k := 34) (by decide)
  have h2 := head_rn (r := r) (k := 96) (by decide)
  have e1 : (rn r = 34) = (rn r = (((34 : UInt8).toNat : Nat) : Int)) := rfl
  have e2 : (rn r = 96) = (rn r = (((96 : UInt8).toNat : Nat) : Int)) := rfl
  rw [qLoop, if_pos rfl]
  simp only [h1, h2, e1, e2]
theorem qLoop_quote (alw : Bool) (r : T) (n : Nat) (so : Option Nat) (oq esc est : Bool) : qLoop alw (34 :: r) n so oq esc est = if est then qLoop alw r (n + 1) so oq esc false else if oq then (false, n, so, esc) else qLoop alw r (n + 1) (some (n + 1)) true esc est := by
  rw [qLoop, if_neg (by decide), if_neg (by decide), if_pos rfl]
theorem qLoop_nl (alw : Bool) (r : T) (n : Nat) (so : Option Nat) (oq esc est : Bool) : qLoop alw (10 :: r) n so oq esc est = (true, n + 1, so, esc) := by rw [qLoop, if_neg (by decide), if_pos rfl]
theorem qLoop_nil (alw : Bool) (n : Nat) (so : Option Nat) (oq esc est : Bool) : qLoop alw [] n so oq esc est = (true, n, so, esc) := by rw [qLoop]
set_option maxHeartbeats 1000000 in
theorem q27 {Z X : Cx} {H : Hd} {F G : Mem} {w : World} {m0 : Mem} (hZ : Z = X.sub 80 w) (hw : Cl X m0 w) (hX : Ok Z H) {z : Lx} {q : RS} (hS : StOk Z H z q G) (st : Value) (W gd : Nat) (r : Res) (hr : r = (qEnd H.s z, some .inside)) :
    PJ Z ((codeOut Tryz.f149 27).wp Tryz.prog (Exit.noGoto (bodyPost Tryz.prog Tryz.f149 (SR X H st gd F r)))) [(0, pL H)] (cM H z st W gd q F G) := by
  subst hZ
  subst hr
  have hs0 := hS.s
  have hpp := hS.p
  have hwl := wd_rest hS.p
  conv => arg 2; arg 2; whnf
  rw [qEnd_eq]
  rcases Decidable.em (rn (H.s.drop z.pos) = 92) with h92 | h92
  · have hw1 : wd (H.s.drop z.pos) = 1 := wd_rn (k := 92) (by decide) h92
    have hwl2 := wd_rest hwl
    rw [if_pos h92]
    rcases Decidable.em (rn (H.s.drop (z.pos + wd (H.s.drop z.pos))) = 34) with h34 | h34
    · have hw2 : wd (H.s.drop (z.pos + wd (H.s.drop z.pos))) = 1 := wd_rn (k := 34) (by decide) h34
      rw [if_pos (by rw [← hw1]; exact h34)]
      repeat' (first | refine cseq ?_ | refine rtext ?_ | refine ctrue rfl ?_ | refine cret ?_ | (show PJ _ (Exit.noGoto _ _) _ _; (refine gret ?_)) | refine jnil ?_ | (first | refine jmv rfl rfl rfl ?_ | refine jas_ rfl rfl rfl ?_ | (show Jo _ (.binOp _ _ _ _ _); refine jy (yeql rfl rfl (by (exact decide_eq_true (by omega)))) rfl rfl ?_) | (show Jo _ (.call _); first | (show Jo (some 62) (.call _); refine jcall0 (v := .int .i32 (rn (H.s.drop z.pos))) (cM H (mv (wd (H.s.drop z.pos)) z) st (wd (H.s.drop z.pos)) gd q F G) bo93 rfl rfl rfl (next_st hX z st W _ _ hS.p) ?_) | (show Jo (some 66) (.call _); refine jcall0 (v := .int .i32 (rn (H.s.drop (z.pos + wd (H.s.drop z.pos))))) (cM H (mv (wd (H.s.drop z.pos)) z) st (wd (H.s.drop (z.pos + wd (H.s.drop z.pos)))) gd q F G) bo170 rfl rfl rfl (peek_st hX (mv (wd (H.s.drop z.pos)) z) st (wd (H.s.drop z.pos)) _ _ hwl) ?_) | (show Jo (some 69) (.call _); refine jcall0 (v := .tuple #[]) (cM H (ign (mv (wd (H.s.drop z.pos)) z)) st (wd (H.s.drop (z.pos + wd (H.s.drop z.pos)))) gd q F G) bo114 rfl rfl rfl (ign_st hX (mv (wd (H.s.drop z.pos)) z) st _ _ _) ?_) | (show Jo (some 71) (.call _); refine jcall0 (v := .int .i32 (rn (H.s.drop (z.pos + wd (H.s.drop z.pos))))) (cM H (mv (wd (H.s.drop (z.pos + wd (H.s.drop z.pos)))) (ign (mv (wd (H.s.drop z.pos)) z))) st (wd (H.s.drop (z.pos + wd (H.s.drop z.pos)))) gd q F G) bo93 rfl rfl rfl (next_st hX (ign (mv (wd (H.s.drop z.pos)) z)) st _ _ _ hwl) ?_) | (show Jo (some 73) (.call _); refine jcall0 (v := .tuple #[]) (cM H (ign (mv (wd (H.s.drop (z.pos + wd (H.s.drop z.pos)))) (ign (mv (wd (H.s.drop z.pos)) z)))) st (wd (H.s.drop (z.pos + wd (H.s.drop z.pos)))) gd q F G) bo114 rfl rfl rfl (ign_st hX (mv (wd (H.s.drop (z.pos + wd (H.s.drop z.pos)))) (ign (mv (wd (H.s.drop z.pos)) z))) st _ _ _) ?_))))
      refine ret1 rfl rfl rfl (fun w' hw' => ⟨q, 1, G, rfl, ?_, (StOk.up hw hS).mv rfl (by (try dsimp only [lsOf, mv, ign, emitL]); omega) (Nat.le_refl _)⟩)
      have h1 := hw.up hw'
      rw [hw2, hw1] at h1
      exact h1
    · rw [if_neg (by rw [← hw1]; exact h34)]
      repeat' (first | refine cseq ?_ | refine rtext ?_ | refine ctrue rfl ?_ | refine cfalse rfl ?_ | refine cskip ?_ | refine cret ?_ | (show PJ _ (Exit.noGoto _ _) _ _; (refine gret ?_)) | refine jnil ?_ | (first | refine jmv rfl rfl rfl ?_ | refine jas_ rfl rfl rfl ?_ | (show Jo _ (.binOp _ _ _ _ _); (refine jy (yeql rfl rfl (by first | exact decide_eq_true (by omega) | exact decide_eq_false (by omega))) rfl rfl ?_)) | (show Jo _ (.call _); first | (show Jo (some 62) (.call _); refine jcall0 (v := .int .i32 (rn (H.s.drop z.pos))) (cM H (mv (wd (H.s.drop z.pos)) z) st (wd (H.s.drop z.pos)) gd q F G) bo93 rfl rfl rfl (next_st hX z st W _ _ hS.p) ?_) | (show Jo (some 66) (.call _); refine jcall0 (v := .int .i32 (rn (H.s.drop (z.pos + wd (H.s.drop z.pos))))) (cM H (mv (wd (H.s.drop z.pos)) z) st (wd (H.s.drop (z.pos + wd (H.s.drop z.pos)))) gd q F G) bo170 rfl rfl rfl (peek_st hX (mv (wd (H.s.drop z.pos)) z) st (wd (H.s.drop z.pos)) _ _ hwl) ?_))))
      refine ret1 rfl rfl rfl (fun w' hw' => ⟨q, wd (H.s.drop (z.pos + 1)), G, rfl, ?_, (StOk.up hw hS).mv (y := mv 1 z) rfl (by (try dsimp only [lsOf, mv, ign, emitL]); omega) (by (try dsimp only [lsOf, mv, ign, emitL]); omega)⟩)
      have h1 := hw.up hw'
      rw [hw1] at h1
      exact h1
  · rw [if_neg h92]
    rcases Decidable.em (rn (H.s.drop z.pos) = 34) with h34 | h34
    · have hw1 : wd (H.s.drop z.pos) = 1 := wd_rn (k := 34) (by decide) h34
      rw [if_pos h34]
      repeat' (first | refine cseq ?_ | refine rtext ?_ | refine ctrue rfl ?_ | refine cfalse rfl ?_ | refine cret ?_ | (show PJ _ (Exit.noGoto _ _) _ _; (refine gret ?_)) | refine jnil ?_ | (first | refine jmv rfl rfl rfl ?_ | refine jas_ rfl rfl rfl ?_ | (show Jo _ (.binOp _ _ _ _ _); (refine jy (yeql rfl rfl (by first | exact decide_eq_true (by omega) | exact decide_eq_false (by omega))) rfl rfl ?_)) | (show Jo _ (.call _); first | (show Jo (some 62) (.call _); refine jcall0 (v := .int .i32 (rn (H.s.drop z.pos))) (cM H (mv (wd (H.s.drop z.pos)) z) st (wd (H.s.drop z.pos)) gd q F G) bo93 rfl rfl rfl (next_st hX z st W _ _ hS.p) ?_) | (show Jo (some 77) (.call _); refine jcall0 (v := .tuple #[]) (cM H (ign (mv (wd (H.s.drop z.pos)) z)) st (wd (H.s.drop z.pos)) gd q F G) bo114 rfl rfl rfl (ign_st hX (mv (wd (H.s.drop z.pos)) z) st _ _ _) ?_))))
      refine ret1 rfl rfl rfl (fun w' hw' => ⟨q, 1, G, rfl, ?_, (StOk.up hw hS).mv rfl (by (try dsimp only [lsOf, mv, ign, emitL]); omega) (Nat.le_refl _)⟩)
      have h1 := hw.up hw'
      rw [hw1] at h1
      exact h1
    · rw [if_neg h34]
      repeat' (first | refine cseq ?_ | refine rtext ?_ | refine cfalse rfl ?_ | refine cret ?_ | (show PJ _ (Exit.noGoto _ _) _ _; (refine gret ?_)) | refine jnil ?_ | (first | refine jmv rfl rfl rfl ?_ | refine jas_ rfl rfl rfl ?_ | (show Jo _ (.binOp _ _ _ _ _); refine jy (yeql rfl rfl (by (exact decide_eq_false (by omega)))) rfl rfl ?_) | (show Jo _ (.call _); first | (show Jo (some 62) (.call _); refine jcall0 (v := .int .i32 (rn (H.s.drop z.pos))) (cM H (mv (wd (H.s.drop z.pos)) z) st (wd (H.s.drop z.pos)) gd q F G) bo93 rfl rfl rfl (next_st hX z st W _ _ hS.p) ?_) | (show Jo (some 79) (.call _); refine jcall0 (v := .tuple #[]) (cM H z st (wd (H.s.drop z.pos)) gd q F G) bo117 rfl rfl rfl (back_st hX z st _ _ (wd (H.s.drop z.pos)) hwl) ?_))))
      exact ret1 rfl rfl rfl (fun w' hw' => ⟨q, _, G, rfl, hw.up hw', StOk.up hw hS⟩)
set_option maxHeartbeats 1000000 in
theorem q24 {Z X : Cx} {H : Hd} {F G : Mem} {w : World} {m0 : Mem} (hZ : Z = X.sub 80 w) (hw : Cl X m0 w) (hX : Ok Z H) (hl32 : H.s.length ≤ 4294967296) {y : Lx} {q : RS} (hS : StOk Z H y q G) (hf : y.items.length < 999999999000) (st : Value) (W gd ty : Nat) (esc : Bool) (r : Res) (hr : r = (qEnd H.s (if esc then emitE ty H.s y else emitS ty y), some .inside)) :
    PJ Z ((codeOut Tryz.f149 24).wp Tryz.prog (Exit.noGoto (bodyPost Tryz.prog Tryz.f149 (SR X H st gd F r)))) [(0, pL H), (2, .int .i64 ty), (8, .bool esc)] (cM H y st W gd q F G) := by
  subst hZ
  conv => arg 2; arg 2; whnf
  cases esc
  · repeat' ((fail_if_success (show PJ _ (Code.wp _ (Code.seq (Code.region 27 _ _) _) _) _ _)); (first | refine cseq ?_ | refine rtext ?_ | refine cfalse rfl ?_ | refine jnil ?_ | (first | refine jmv rfl rfl rfl ?_ | (show Jo _ (.call _); ((show Jo (some 60) (.call _); refine jcall (ι := RS) (vs := [pL H, .int .i64 ty]) (v := fun _ => .tuple #[]) (m' := fun q' => cM H (emitS ty y) st W gd q' F G) (fun q' => StOk _ H (emitS ty y) q' G) bo185 rfl rfl rfl (emitS_st hX y st _ _ hS (by omega) ty) (fun q1 hS1 => ?_)))))))
    exact fin (q27 rfl hw hX hS1 st W gd r hr) ⟨rfl, trivial⟩ rfl
  · repeat' ((fail_if_success (show PJ _ (Code.wp _ (Code.seq (Code.region 27 _ _) _) _) _ _)); (first | refine cseq ?_ | refine rtext ?_ | refine ctrue rfl ?_ | refine jnil ?_ | (first | refine jmv rfl rfl rfl ?_ | (show Jo _ (.call _); ((show Jo (some 57) (.call _); refine jcall (ι := RS × Mem) (vs := [pL H, .int .i64 ty, .bool true]) (v := fun _ => .tuple #[]) (m' := fun u => cM H (emitE ty H.s y) st W gd u.1 F u.2) (fun u => StOk _ H (emitE ty H.s y) u.1 u.2) bo184 rfl rfl rfl (igEsc_calls hX hl32 hS hf st W gd ty) (fun u hSu => ?_)))))))
    exact fin (q27 rfl hw hX hSu st W gd r hr) ⟨rfl, trivial⟩ rfl
set_option maxHeartbeats 2000000 in
theorem quoted_calls {X : Cx} {H : Hd} {F G : Mem} (hX : Ok X H) (hl32 : H.s.length ≤ 4294967296) {x : Lx} {q : RS} (hS : StOk X H x q G) (hf : x.items.length < 999999999000) (st : Value) (W gd : Nat) (alw : Bool) (ty : Nat) : ∀ w, Cl X (cM H x st W gd q F G) w → Calls Tryz.prog 149 #[pL H, .bool alw, .int .i64 ty] w (SR X H st gd F (Lex0.quoted H.s alw ty x)) := by
  intro w hw
  refine enterC 80 hw Tryz.func149 rfl rfl (vs := [pL H, .bool alw, .int .i64 ty]) rfl ?_
  replace hX := hX.sub hw 80
  replace hS := hS.sub 80 w
  generalize hr : Lex0.quoted H.s alw ty x = r
  conv => arg 2; arg 2; whnf
  repeat' (first | refine cseq ?_ | refine rtext ?_ | refine cblk ?_ | refine cscope ?_ | refine clabel ?_ | refine jnil ?_ | ((refine jas_ rfl rfl rfl ?_)))
  refine fin (f' := [(0, pL H), (1, .bool alw), (2, .int .i64 ty), (7, .bool false), (8, .bool false), (9, .int .i64 (0 : Nat))]) (m' := cM H { x with pos := x.pos, start := stAt x none } st W gd q F G)
    (cloop (ι := Nat × Option Nat × Nat × Bool × Bool × Nat) (fun u => [(0, pL H), (1, .bool alw), (2, .int .i64 ty), (7, .bool u.2.2.2.1), (8, .bool u.2.2.2.2.1), (9, .int .i64 (u.2.2.2.2.2 : Nat))]) (fun u => cM H { x with pos := u.1, start := stAt x u.2.1 } st u.2.2.1 gd q F G) (fun n u => n = H.s.length - u.1 ∧ u.1 ≤ H.s.length ∧ x.pos ≤ u.1 ∧ stAt x u.2.1 ≤ u.1 ∧ qLoop alw (H.s.drop x.pos) 0 none false false false = qLoop alw (H.s.drop u.1) (u.1 - x.pos) u.2.1 u.2.2.2.1 u.2.2.2.2.1 (decide (u.2.2.2.2.2 ≠ 0))) (H.s.length - x.pos) (x.pos, none, W, false, false, 0) ⟨rfl, hS.p, Nat.le_refl _, hS.s, by rw [Nat.sub_self]; rfl⟩ ?_) ⟨rfl, rfl, rfl, rfl, rfl, rfl, trivial⟩ rfl
  rintro n ⟨p, so, W, oq, esc, en⟩ ⟨rfl, hp, hxp, hso, hql⟩ K hK
  dsimp only at hp hxp hso hql ⊢
  have hwl := wd_rest hp
  have hSp : StOk (X.sub 80 w) H { x with pos := p, start := stAt x so } q G := hS.mv rfl hp hso
  have hSe : StOk (X.sub 80 w) H (mv (wd (H.s.drop p)) { x with pos := p, start := stAt x so }) q G := hS.mv rfl hwl (Nat.le_trans hso (Nat.le_add_right _ _))
  have hdw : (H.s.drop p).drop (wd (H.s.drop p)) = H.s.drop (p + wd (H.s.drop p)) := drop_wd _ _
  have hpx : x.pos + (p - x.pos) = p := by omega
  have rFail : ∀ k, qLoop alw (H.s.drop x.pos) 0 none false false false = (true, k, so, esc) → x.pos + k = p + wd (H.s.drop p) → r = (errI (mv (wd (H.s.drop p)) { x with pos := p, start := stAt x so }), none) := fun k h1 h2 => by
    rw [← hr]
    unfold Lex0.quoted
    rw [h1]
    dsimp only
    rw [if_pos rfl, h2]
    rfl
  have rOk : qLoop alw (H.s.drop x.pos) 0 none false false false = (false, p - x.pos, so, esc) → r = (qEnd H.s (if esc then emitE ty H.s { x with pos := p, start := stAt x so } else emitS ty { x with pos := p, start := stAt x so }), some .inside) := fun h1 => by
    rw [← hr]
    unfold Lex0.quoted
    rw [h1]
    dsimp only
    rw [if_neg (by simp), hpx]
  rcases Decidable.em (rn (H.s.drop p) = 92) with h92 | h92
  · obtain ⟨rr, hrr, hw1⟩ := rn_head (k := 92) (by decide) h92
    have hrd : rr = H.s.drop (p + wd (H.s.drop p)) := by rw [← hdw, hw1, hrr]; rfl
    have hbk := qLoop_back alw rr (p - x.pos) so oq esc (decide (en ≠ 0))
    rw [← hrr, hrd] at hbk
    rcases Decidable.em (rn (H.s.drop (p + wd (H.s.drop p))) = 34) with h34 | h34
    · have hw2 : wd (H.s.drop (p + wd (H.s.drop p))) = 1 := wd_rn (k := 34) (by decide) h34
      rw [if_pos h34] at hbk
      cases oq
      · rw [if_neg (by simp)] at hbk
        have hk := hK (H.s.length - (p + wd (H.s.drop p))) (p + wd (H.s.drop p), so, (wd (H.s.drop (p + wd (H.s.drop p)))), false, esc, en) (by dsimp only; omega) ⟨rfl, hwl, by dsimp only; omega, by dsimp only; omega, by dsimp only; rw [hql, hbk, show p + wd (H.s.drop p) - x.pos = p - x.pos + 1 by omega]⟩
        repeat' ((fail_if_success (show PJ _ (Code.wp _ (Code.seq (Code.seq (Code.region 24 _ _) _) _) _) _ _)); (first | refine cseq ?_ | refine rtext ?_ | refine ctrue rfl ?_ | refine cfalse rfl ?_ | refine cskip ?_ | refine cblk ?_ | refine tnorm ?_ | refine bnorm ?_ | refine jnil ?_ | (first | refine js rfl rfl ?_ | refine jmv rfl rfl rfl ?_ | refine jas_ rfl rfl rfl ?_ | (show Jo _ (.binOp _ _ _ _ _); refine jy (yeql rfl rfl (by (exact decide_eq_true (by omega)))) rfl rfl ?_) | (show Jo _ (.pick _ _ _); refine jy (ypick0 rfl rfl) rfl rfl ?_) | (show Jo _ (.call _); first | (show Jo (some 13) (.call _); refine jcall0 (v := .int .i32 (rn (H.s.drop p))) (cM H (mv (wd (H.s.drop p)) { x with pos := p, start := stAt x so }) st (wd (H.s.drop p)) gd q F G) bo93 rfl rfl rfl (next_st hX { x with pos := p, start := stAt x so } st W _ _ hp) ?_) | (show Jo (some 18) (.call _); refine jcall0 (v := .int .i32 (rn (H.s.drop (p + wd (H.s.drop p))))) (cM H (mv (wd (H.s.drop p)) { x with pos := p, start := stAt x so }) st (wd (H.s.drop (p + wd (H.s.drop p)))) gd q F G) bo170 rfl rfl rfl (peek_st hX (mv (wd (H.s.drop p)) { x with pos := p, start := stAt x so }) st (wd (H.s.drop p)) _ _ hwl) ?_)))))
        exact fin hk ⟨rfl, rfl, rfl, rfl, rfl, rfl, trivial⟩ rfl
      · rw [if_pos rfl] at hbk
        cases alw
        · rw [if_neg (by simp)] at hbk
          repeat' ((fail_if_success (show PJ _ (Code.wp _ (Code.seq (Code.seq (Code.region 24 _ _) _) _) _) _ _)); (first | refine cseq ?_ | refine rtext ?_ | refine ctrue rfl ?_ | refine cblk ?_ | refine cexit ?_ | refine jnil ?_ | (first | refine jmv rfl rfl rfl ?_ | refine jas_ rfl rfl rfl ?_ | (show Jo _ (.binOp _ _ _ _ _); refine jy (yeql rfl rfl (by (exact decide_eq_true (by omega)))) rfl rfl ?_) | (show Jo _ (.pick _ _ _); refine jy (ypick1 rfl rfl) rfl rfl ?_) | refine jy (ynot rfl rfl) rfl rfl ?_ | (show Jo _ (.call _); first | (show Jo (some 13) (.call _); refine jcall0 (v := .int .i32 (rn (H.s.drop p))) (cM H (mv (wd (H.s.drop p)) { x with pos := p, start := stAt x so }) st (wd (H.s.drop p)) gd q F G) bo93 rfl rfl rfl (next_st hX { x with pos := p, start := stAt x so } st W _ _ hp) ?_) | (show Jo (some 18) (.call _); refine jcall0 (v := .int .i32 (rn (H.s.drop (p + wd (H.s.drop p))))) (cM H (mv (wd (H.s.drop p)) { x with pos := p, start := stAt x so }) st (wd (H.s.drop (p + wd (H.s.drop p)))) gd q F G) bo170 rfl rfl rfl (peek_st hX (mv (wd (H.s.drop p)) { x with pos := p, start := stAt x so }) st (wd (H.s.drop p)) _ _ hwl) ?_) | (show Jo (some 26) (.call _); rw [hw2, hw1]; refine jcall0 (v := .tuple #[]) (cM H { x with pos := p, start := stAt x so } st 1 gd q F G) bo117 rfl rfl rfl (back_st hX { x with pos := p, start := stAt x so } st _ _ 1 (by dsimp only; omega)) ?_)))))
          exact fin (q24 rfl hw hX hl32 hSp hf st 1 gd ty esc r (rOk (hql.trans hbk))) ⟨rfl, rfl, rfl, trivial⟩ rfl
        · rw [if_pos rfl] at hbk
          have hk := hK (H.s.length - (p + wd (H.s.drop p))) (p + wd (H.s.drop p), so, (wd (H.s.drop (p + wd (H.s.drop p)))), true, true, 1) (by dsimp only; omega) ⟨rfl, hwl, by dsimp only; omega, by dsimp only; omega, by dsimp only; rw [hql, hbk, show p + wd (H.s.drop p) - x.pos = p - x.pos + 1 by omega]; rfl⟩
          repeat' ((fail_if_success (show PJ _ (Code.wp _ (Code.seq (Code.seq (Code.region 24 _ _) _) _) _) _ _)); (first | refine cseq ?_ | refine rtext ?_ | refine ctrue rfl ?_ | refine cfalse rfl ?_ | refine cblk ?_ | refine tnorm ?_ | refine bnorm ?_ | refine jnil ?_ | (first | refine jmv rfl rfl rfl ?_ | refine jas_ rfl rfl rfl ?_ | (show Jo _ (.binOp _ _ _ _ _); refine jy (yeql rfl rfl (by (exact decide_eq_true (by omega)))) rfl rfl ?_) | (show Jo _ (.pick _ _ _); refine jy (ypick1 rfl rfl) rfl rfl ?_) | refine jy (ynot rfl rfl) rfl rfl ?_ | (show Jo _ (.call _); first | (show Jo (some 13) (.call _); refine jcall0 (v := .int .i32 (rn (H.s.drop p))) (cM H (mv (wd (H.s.drop p)) { x with pos := p, start := stAt x so }) st (wd (H.s.drop p)) gd q F G) bo93 rfl rfl rfl (next_st hX { x with pos := p, start := stAt x so } st W _ _ hp) ?_) | (show Jo (some 18) (.call _); refine jcall0 (v := .int .i32 (rn (H.s.drop (p + wd (H.s.drop p))))) (cM H (mv (wd (H.s.drop p)) { x with pos := p, start := stAt x so }) st (wd (H.s.drop (p + wd (H.s.drop p)))) gd q F G) bo170 rfl rfl rfl (peek_st hX (mv (wd (H.s.drop p)) { x with pos := p, start := stAt x so }) st (wd (H.s.drop p)) _ _ hwl) ?_)))))
          exact fin hk ⟨rfl, rfl, rfl, rfl, rfl, rfl, trivial⟩ rfl
    · rw [if_neg h34] at hbk
      rcases Decidable.em (rn (H.s.drop (p + wd (H.s.drop p))) = 96) with h96 | h96
      · rw [if_pos h96] at hbk
        rw [rFail (p - x.pos + 1) (hql.trans hbk) (by omega)]
        repeat' ((fail_if_success (show PJ _ (Code.wp _ (Code.seq (Code.seq (Code.region 24 _ _) _) _) _) _ _)); (first | refine cseq ?_ | refine rtext ?_ | refine ctrue rfl ?_ | refine cfalse rfl ?_ | refine cblk ?_ | refine cret ?_ | refine tret ?_ | refine bret ?_ | (show PJ _ (Exit.noGoto _ _) _ _; (refine gret ?_)) | refine jnil ?_ | (first | refine jmv rfl rfl rfl ?_ | refine jas_ rfl rfl rfl ?_ | (show Jo _ (.binOp _ _ _ _ _); (refine jy (yeql rfl rfl (by first | exact decide_eq_true (by omega) | exact decide_eq_false (by omega))) rfl rfl ?_)) | (show Jo _ (.call _); first | (show Jo (some 13) (.call _); refine jcall0 (v := .int .i32 (rn (H.s.drop p))) (cM H (mv (wd (H.s.drop p)) { x with pos := p, start := stAt x so }) st (wd (H.s.drop p)) gd q F G) bo93 rfl rfl rfl (next_st hX { x with pos := p, start := stAt x so } st W _ _ hp) ?_) | (show Jo (some 18) (.call _); refine jcall0 (v := .int .i32 (rn (H.s.drop (p + wd (H.s.drop p))))) (cM H (mv (wd (H.s.drop p)) { x with pos := p, start := stAt x so }) st (wd (H.s.drop (p + wd (H.s.drop p)))) gd q F G) bo170 rfl rfl rfl (peek_st hX (mv (wd (H.s.drop p)) { x with pos := p, start := stAt x so }) st (wd (H.s.drop p)) _ _ hwl) ?_) | (show Jo (some 29) (.call _); refine jcall0 (v := .int .i32 (rn (H.s.drop (p + wd (H.s.drop p))))) (cM H (mv (wd (H.s.drop p)) { x with pos := p, start := stAt x so }) st (wd (H.s.drop (p + wd (H.s.drop p)))) gd q F G) bo170 rfl rfl rfl (peek_st hX (mv (wd (H.s.drop p)) { x with pos := p, start := stAt x so }) st (wd (H.s.drop (p + wd (H.s.drop p)))) _ _ hwl) ?_) | (show Jo (some 32) (.call _); refine jcall (ι := RS) (v := fun _ => .nilFunc) (m' := fun q' => cM H (errI (mv (wd (H.s.drop p)) { x with pos := p, start := stAt x so })) st (wd (H.s.drop (p + wd (H.s.drop p)))) gd q' F G) (fun q' => StOk _ H (errI (mv (wd (H.s.drop p)) { x with pos := p, start := stAt x so })) q' G) bo112 rfl rfl rfl (err_st hX hSe st _ _ (by dsimp only [mv]; omega) _ _) (fun q1 hS1 => ?_))))))
        exact ret1 rfl rfl rfl (fun w' hw' => ⟨q1, _, G, rfl, hw.up hw', StOk.up hw hS1⟩)
      · rw [if_neg h96] at hbk
        have hk := hK (H.s.length - (p + wd (H.s.drop p))) (p + wd (H.s.drop p), so, (wd (H.s.drop (p + wd (H.s.drop p)))), oq, esc, en) (by dsimp only; omega) ⟨rfl, hwl, by dsimp only; omega, by dsimp only; omega, by dsimp only; rw [hql, hbk, show p + wd (H.s.drop p) - x.pos = p - x.pos + 1 by omega]⟩
        repeat' ((fail_if_success (show PJ _ (Code.wp _ (Code.seq (Code.seq (Code.region 24 _ _) _) _) _) _ _)); (first | refine cseq ?_ | refine rtext ?_ | refine ctrue rfl ?_ | refine cfalse rfl ?_ | refine cskip ?_ | refine cblk ?_ | refine tnorm ?_ | refine bnorm ?_ | refine jnil ?_ | (first | refine jmv rfl rfl rfl ?_ | refine jas_ rfl rfl rfl ?_ | (show Jo _ (.binOp _ _ _ _ _); (refine jy (yeql rfl rfl (by first | exact decide_eq_true (by omega) | exact decide_eq_false (by omega))) rfl rfl ?_)) | (show Jo _ (.call _); first | (show Jo (some 13) (.call _); refine jcall0 (v := .int .i32 (rn (H.s.drop p))) (cM H (mv (wd (H.s.drop p)) { x with pos := p, start := stAt x so }) st (wd (H.s.drop p)) gd q F G) bo93 rfl rfl rfl (next_st hX { x with pos := p, start := stAt x so } st W _ _ hp) ?_) | (show Jo (some 18) (.call _); refine jcall0 (v := .int .i32 (rn (H.s.drop (p + wd (H.s.drop p))))) (cM H (mv (wd (H.s.drop p)) { x with pos := p, start := stAt x so }) st (wd (H.s.drop (p + wd (H.s.drop p)))) gd q F G) bo170 rfl rfl rfl (peek_st hX (mv (wd (H.s.drop p)) { x with pos := p, start := stAt x so }) st (wd (H.s.drop p)) _ _ hwl) ?_) | (show Jo (some 29) (.call _); refine jcall0 (v := .int .i32 (rn (H.s.drop (p + wd (H.s.drop p))))) (cM H (mv (wd (H.s.drop p)) { x with pos := p, start := stAt x so }) st (wd (H.s.drop (p + wd (H.s.drop p)))) gd q F G) bo170 rfl rfl rfl (peek_st hX (mv (wd (H.s.drop p)) { x with pos := p, start := stAt x so }) st (wd (H.s.drop (p + wd (H.s.drop p)))) _ _ hwl) ?_)))))
        exact fin hk ⟨rfl, rfl, rfl, rfl, rfl, rfl, trivial⟩ rfl
  rcases Decidable.em (rn (H.s.drop p) = -1) with hn1 | hn1
  · have hnil := rn_neg.1 hn1
    have hw0 : wd (H.s.drop p) = 0 := by rw [hnil]; rfl
    rw [rFail (p - x.pos) (by rw [hql, hnil, qLoop_nil]) (by omega)]
    repeat' ((fail_if_success (show PJ _ (Code.wp _ (Code.seq (Code.seq (Code.region 24 _ _) _) _) _) _ _)); (first | refine cseq ?_ | refine rtext ?_ | refine ctrue rfl ?_ | refine cfalse rfl ?_ | refine cskip ?_ | refine cblk ?_ | refine cret ?_ | refine tret ?_ | refine bret ?_ | (show PJ _ (Exit.noGoto _ _) _ _; (refine gret ?_)) | refine jnil ?_ | (first | refine jmv rfl rfl rfl ?_ | refine jas_ rfl rfl rfl ?_ | (show Jo _ (.binOp _ _ _ _ _); (refine jy (yeql rfl rfl (by first | exact decide_eq_true (by omega) | exact decide_eq_false (by omega))) rfl rfl ?_)) | (show Jo _ (.call _); first | (show Jo (some 13) (.call _); refine jcall0 (v := .int .i32 (rn (H.s.drop p))) (cM H (mv (wd (H.s.drop p)) { x with pos := p, start := stAt x so }) st (wd (H.s.drop p)) gd q F G) bo93 rfl rfl rfl (next_st hX { x with pos := p, start := stAt x so } st W _ _ hp) ?_) | (show Jo (some 40) (.call _); refine jcall (ι := Value) (v := fun v => v) (m' := fun _ => cM H (mv (wd (H.s.drop p)) { x with pos := p, start := stAt x so }) st (wd (H.s.drop p)) gd q F G) (fun _ => True) bo183 rfl rfl rfl (cur_st hX (mv (wd (H.s.drop p)) { x with pos := p, start := stAt x so }) st _ _ _ (Nat.le_trans hso (Nat.le_add_right _ _)) hwl) (fun cv _ => ?_)) | (show Jo (some 43) (.call _); refine jcall (ι := RS) (v := fun _ => .nilFunc) (m' := fun q' => cM H (errI (mv (wd (H.s.drop p)) { x with pos := p, start := stAt x so })) st (wd (H.s.drop p)) gd q' F G) (fun q' => StOk _ H (errI (mv (wd (H.s.drop p)) { x with pos := p, start := stAt x so })) q' G) bo112 rfl rfl rfl (err_st hX hSe st _ _ (by dsimp only [mv]; omega) _ _) (fun q1 hS1 => ?_))) | (show Jo _ (.makeInterface 62 _); refine jy (ymkI rfl co59) rfl rfl ?_) | (show Jo _ (.buildSlice 130 _ _); refine jlitN (n := 1) (vs := [.iface 62 _]) rfl rfl rfl rfl gr153 rfl rfl rfl rfl (fun gz hTz => ?_); refine jless (List.sublist_cons_self _ _) ?_))))
    exact ret1 rfl rfl rfl (fun w' hw' => ⟨q1, _, G, rfl, hw.up hw', StOk.up hw hS1⟩)
  have hne : H.s.drop p ≠ [] := fun h => hn1 (rn_neg.2 h)
  have hwp := wd_pos hne
  rcases Decidable.em (rn (H.s.drop p) = 10) with h10 | h10
  · obtain ⟨rr, hrr, hw1⟩ := rn_head (k := 10) (by decide) h10
    rw [rFail (p - x.pos + 1) (by rw [hql, hrr, qLoop_nl]) (by omega)]
    repeat' ((fail_if_success (show PJ _ (Code.wp _ (Code.seq (Code.seq (Code.region 24 _ _) _) _) _) _ _)); (first | refine cseq ?_ | refine rtext ?_ | refine ctrue rfl ?_ | refine cfalse rfl ?_ | refine cblk ?_ | refine cret ?_ | refine tret ?_ | refine bret ?_ | (show PJ _ (Exit.noGoto _ _) _ _; (refine gret ?_)) | refine jnil ?_ | (first | refine jmv rfl rfl rfl ?_ | refine jas_ rfl rfl rfl ?_ | (show Jo _ (.binOp _ _ _ _ _); (refine jy (yeql rfl rfl (by first | exact decide_eq_true (by omega) | exact decide_eq_false (by omega))) rfl rfl ?_)) | (show Jo _ (.call _); first | (show Jo (some 13) (.call _); refine jcall0 (v := .int .i32 (rn (H.s.drop p))) (cM H (mv (wd (H.s.drop p)) { x with pos := p, start := stAt x so }) st (wd (H.s.drop p)) gd q F G) bo93 rfl rfl rfl (next_st hX { x with pos := p, start := stAt x so } st W _ _ hp) ?_) | (show Jo (some 40) (.call _); refine jcall (ι := Value) (v := fun v => v) (m' := fun _ => cM H (mv (wd (H.s.drop p)) { x with pos := p, start := stAt x so }) st (wd (H.s.drop p)) gd q F G) (fun _ => True) bo183 rfl rfl rfl (cur_st hX (mv (wd (H.s.drop p)) { x with pos := p, start := stAt x so }) st _ _ _ (Nat.le_trans hso (Nat.le_add_right _ _)) hwl) (fun cv _ => ?_)) | (show Jo (some 43) (.call _); refine jcall (ι := RS) (v := fun _ => .nilFunc) (m' := fun q' => cM H (errI (mv (wd (H.s.drop p)) { x with pos := p, start := stAt x so })) st (wd (H.s.drop p)) gd q' F G) (fun q' => StOk _ H (errI (mv (wd (H.s.drop p)) { x with pos := p, start := stAt x so })) q' G) bo112 rfl rfl rfl (err_st hX hSe st _ _ (by dsimp only [mv]; omega) _ _) (fun q1 hS1 => ?_))) | (show Jo _ (.makeInterface 62 _); refine jy (ymkI rfl co59) rfl rfl ?_) | (show Jo _ (.buildSlice 130 _ _); refine jlitN (n := 1) (vs := [.iface 62 _]) rfl rfl rfl rfl gr153 rfl rfl rfl rfl (fun gz hTz => ?_); refine jless (List.sublist_cons_self _ _) ?_))))
    exact ret1 rfl rfl rfl (fun w' hw' => ⟨q1, _, G, rfl, hw.up hw', StOk.up hw hS1⟩)
  rcases Decidable.em (rn (H.s.drop p) = 34) with h34 | h34
  · obtain ⟨rr, hrr, hw1⟩ := rn_head (k := 34) (by decide) h34
    have hrd : rr = H.s.drop (p + wd (H.s.drop p)) := by rw [← hdw, hw1, hrr]; rfl
    have hbk := qLoop_quote alw rr (p - x.pos) so oq esc (decide (en ≠ 0))
    rw [← hrr, hrd] at hbk
    rcases Decidable.em (en = 0) with hen | hen
    · rw [hen] at hbk hql ⊢
      rw [if_neg (by simp)] at hbk
      cases oq
      · rw [if_neg (by simp)] at hbk
        have hk := hK (H.s.length - (p + wd (H.s.drop p))) (p + wd (H.s.drop p), some (p - x.pos + 1), wd (H.s.drop p), true, esc, 0) (by dsimp only; omega) ⟨rfl, hwl, by dsimp only; omega, by dsimp only [stAt]; omega, by dsimp only; rw [hql, hbk, show p + wd (H.s.drop p) - x.pos = p - x.pos + 1 by omega]⟩
        repeat' ((fail_if_success (show PJ _ (Code.wp _ (Code.seq (Code.seq (Code.region 24 _ _) _) _) _) _ _)); (first | refine cseq ?_ | refine rtext ?_ | refine ctrue rfl ?_ | refine cfalse rfl ?_ | refine cblk ?_ | refine tnorm ?_ | refine bnorm ?_ | refine jnil ?_ | (first | refine jmv rfl rfl rfl ?_ | refine jas_ rfl rfl rfl ?_ | (show Jo _ (.binOp _ _ _ _ _); (refine jy (yeql rfl rfl (by first | exact decide_eq_true (by omega) | exact decide_eq_false (by omega))) rfl rfl ?_)) | (show Jo _ (.call _); first | (show Jo (some 13) (.call _); refine jcall0 (v := .int .i32 (rn (H.s.drop p))) (cM H (mv (wd (H.s.drop p)) { x with pos := p, start := stAt x so }) st (wd (H.s.drop p)) gd q F G) bo93 rfl rfl rfl (next_st hX { x with pos := p, start := stAt x so } st W _ _ hp) ?_) | (show Jo (some 53) (.call _); refine jcall0 (v := .tuple #[]) (cM H (ign (mv (wd (H.s.drop p)) { x with pos := p, start := stAt x so })) st (wd (H.s.drop p)) gd q F G) bo114 rfl rfl rfl (ign_st hX (mv (wd (H.s.drop p)) { x with pos := p, start := stAt x so }) st _ _ _) ?_)))))
        refine pmem (m' := cM H { x with pos := p + wd (H.s.drop p), start := stAt x (some (p - x.pos + 1)) } st (wd (H.s.drop p)) gd q F G) ?_ (fin hk ⟨rfl, rfl, rfl, rfl, rfl, rfl, trivial⟩ rfl)
        show cM H { x with pos := p + wd (H.s.drop p), start := x.pos + (p - x.pos + 1) } st (wd (H.s.drop p)) gd q F G = cM H { x with pos := p + wd (H.s.drop p), start := p + wd (H.s.drop p) } st (wd (H.s.drop p)) gd q F G
        rw [show x.pos + (p - x.pos + 1) = p + wd (H.s.drop p) by omega]
      · rw [if_pos rfl] at hbk
        repeat' ((fail_if_success (show PJ _ (Code.wp _ (Code.seq (Code.seq (Code.region 24 _ _) _) _) _) _ _)); (first | refine cseq ?_ | refine rtext ?_ | refine ctrue rfl ?_ | refine cfalse rfl ?_ | refine cblk ?_ | refine cexit ?_ | refine jnil ?_ | (first | refine jmv rfl rfl rfl ?_ | refine jas_ rfl rfl rfl ?_ | (show Jo _ (.binOp _ _ _ _ _); (refine jy (yeql rfl rfl (by first | exact decide_eq_true (by omega) | exact decide_eq_false (by omega))) rfl rfl ?_)) | (show Jo _ (.call _); first | (show Jo (some 13) (.call _); refine jcall0 (v := .int .i32 (rn (H.s.drop p))) (cM H (mv (wd (H.s.drop p)) { x with pos := p, start := stAt x so }) st (wd (H.s.drop p)) gd q F G) bo93 rfl rfl rfl (next_st hX { x with pos := p, start := stAt x so } st W _ _ hp) ?_) | (show Jo (some 51) (.call _); refine jcall0 (v := .tuple #[]) (cM H { x with pos := p, start := stAt x so } st (wd (H.s.drop p)) gd q F G) bo117 rfl rfl rfl (back_st hX { x with pos := p, start := stAt x so } st _ _ (wd (H.s.drop p)) hwl) ?_)))))
        exact fin (q24 rfl hw hX hl32 hSp hf st (wd (H.s.drop p)) gd ty esc r (rOk (hql.trans hbk))) ⟨rfl, rfl, rfl, trivial⟩ rfl
    · rw [if_pos (by simpa using hen)] at hbk
      have hk := hK (H.s.length - (p + wd (H.s.drop p))) (p + wd (H.s.drop p), so, wd (H.s.drop p), oq, esc, 0) (by dsimp only; omega) ⟨rfl, hwl, by dsimp only; omega, by dsimp only; omega, by dsimp only; rw [hql, hbk, show p + wd (H.s.drop p) - x.pos = p - x.pos + 1 by omega]; rfl⟩
      repeat' ((fail_if_success (show PJ _ (Code.wp _ (Code.seq (Code.seq (Code.region 24 _ _) _) _) _) _ _)); (first | refine cseq ?_ | refine rtext ?_ | refine ctrue rfl ?_ | refine cfalse rfl ?_ | refine cblk ?_ | refine tnorm ?_ | refine bnorm ?_ | refine jnil ?_ | (first | refine jmv rfl rfl rfl ?_ | refine jas_ rfl rfl rfl ?_ | (show Jo _ (.binOp _ _ _ _ _); (refine jy (yeql rfl rfl (by first | exact decide_eq_true (by omega) | exact decide_eq_false (by omega))) rfl rfl ?_)) | (show Jo _ (.call _); ((show Jo (some 13) (.call _); refine jcall0 (v := .int .i32 (rn (H.s.drop p))) (cM H (mv (wd (H.s.drop p)) { x with pos := p, start := stAt x so }) st (wd (H.s.drop p)) gd q F G) bo93 rfl rfl rfl (next_st hX { x with pos := p, start := stAt x so } st W _ _ hp) ?_))))))
      exact fin hk ⟨rfl, rfl, rfl, rfl, rfl, rfl, trivial⟩ rfl
  · have hfr := qLoop_rune (alw := alw) (p - x.pos) so oq esc (decide (en ≠ 0)) hne h92 h10 h34
    rw [hdw] at hfr
    have hk := hK (H.s.length - (p + wd (H.s.drop p))) (p + wd (H.s.drop p), so, wd (H.s.drop p), oq, esc, en) (by dsimp only; omega) ⟨rfl, hwl, by dsimp only; omega, by dsimp only; omega, by dsimp only; rw [hql, hfr, show p + wd (H.s.drop p) - x.pos = p - x.pos + wd (H.s.drop p) by omega]⟩
    repeat' ((fail_if_success (show PJ _ (Code.wp _ (Code.seq (Code.seq (Code.region 24 _ _) _) _) _) _ _)); (first | refine cseq ?_ | refine rtext ?_ | refine cfalse rfl ?_ | refine cskip ?_ | refine cblk ?_ | refine tnorm ?_ | refine bnorm ?_ | refine jnil ?_ | (first | refine jmv rfl rfl rfl ?_ | refine jas_ rfl rfl rfl ?_ | (show Jo _ (.binOp _ _ _ _ _); refine jy (yeql rfl rfl (by (exact decide_eq_false (by omega)))) rfl rfl ?_) | (show Jo _ (.call _); ((show Jo (some 13) (.call _); refine jcall0 (v := .int .i32 (rn (H.s.drop p))) (cM H (mv (wd (H.s.drop p)) { x with pos := p, start := stAt x so }) st (wd (H.s.drop p)) gd q F G) bo93 rfl rfl rfl (next_st hX { x with pos := p, start := stAt x so } st W _ _ hp) ?_))))))
    exact fin hk ⟨rfl, rfl, rfl, rfl, rfl, rfl, trivial⟩ rfl
end Go.Proofs.YtkehggbmpdacpabGreatDoor.Pg
