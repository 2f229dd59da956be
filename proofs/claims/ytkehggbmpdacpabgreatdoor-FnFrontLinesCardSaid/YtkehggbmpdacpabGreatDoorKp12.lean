/- The page laws: texts that all of them use, joined (part 12): Pg33, Pg34, Pg35, Pg36, Pg37, Pg38, Pg39, Lex6. -/
import Derived.Test.YtkehggbmpdacpabGreatDoorKp8
import Derived.Test.YtkehggbmpdacpabGreatDoorKp10
import Derived.Test.YtkehggbmpdacpabGreatDoorKp11
set_option maxRecDepth 100000
set_option linter.unusedVariables false
set_option linter.unusedSimpArgs false
set_option linter.unusedSectionVars false
namespace Go.Proofs.YtkehggbmpdacpabGreatDoor.Pg
open Go.Rx hiding bt
open Go.RowKit Go.Proofs.YtkehggbmpdacpabGreatDoor.Dec0 Go.Proofs.YtkehggbmpdacpabGreatDoor.Lex0
theorem idx_cons_pre {p l : T} (hp : p.isPrefixOf l = true) : idx p l = some 0 := by
  cases l with
  | nil =>
    cases p with
    | nil => rfl
    | cons c r => cases hp
  | cons c r => unfold idx; rw [if_pos hp]
theorem noPre {l : T} (h : idx lsc l = none) : (lmd.isPrefixOf l || lno.isPrefixOf l) = false := by
  rcases (Bool.eq_false_or_eq_true (lmd.isPrefixOf l || lno.isPrefixOf l)).symm with hb | hb
  · exact hb
  · have : lsc.isPrefixOf l = true := by
      rw [Bool.or_eq_true] at hb
      have e : ∀ c, List.isPrefixOf ([123, 123, c] : T) l = true → lsc.isPrefixOf l = true := fun c hc => by
        rw [List.isPrefixOf_iff_prefix] at hc ⊢
        obtain ⟨t, rfl⟩ := hc
        exact ⟨c :: t, rfl⟩
      rcases hb with hb | hb
      · exact e _ hb
      · exact e _ hb
    rw [idx_cons_pre this] at h
    cases h
theorem found_pos {s : T} {dv : Bool} {x : Lx} {k : Nat} (h : found s dv x = some k) : x.pos + k + 1 ≤ s.length := by
  have hp : ∀ {p : T}, p ≠ [] → idx p (s.drop x.pos) = some k → x.pos + k + 1 ≤ s.length := fun h0 h => by
    have := idx_pre h
    rw [List.drop_drop] at this
    exact pre_drop_len h0 this
  rw [found_eq] at h
  have hm : ∀ a b : Option Nat, mn a b = some k → a = some k ∨ b = some k := by
    intro a b h
    cases a <;> cases b
    · cases h
    · exact .inr h
    · exact .inl h
    · rename_i u v
      have : min u v = k := by simpa [mn] using h
      rcases Nat.le_total u v with h1 | h1
      · exact .inl (by rw [Nat.min_eq_left h1] at this; rw [this])
      · exact .inr (by rw [Nat.min_eq_right h1] at this; rw [this])
  rcases hm _ _ h with h1 | h1
  · exact hp (by decide) h1
  · split at h1
    · unfold idxD at h1
      split at h1
      · cases h1
      · exact hp (by cases x.org <;> decide) h1
    · cases h1
theorem hlex_calls {X : Cx} {H : Hd} {G : Mem} (hX : Ok X H) {S : Sec} (hal : S.all = false) {x : Lx} {q : RS} (hS : StOk X H x q G) (hf : x.items.length < 999999998000) (hnl : x.name.size ≤ 4611686018427387904) (st : Value) (W gd : Nat) (hp1 : x.pos + 1 ≤ H.s.length)
    (hs1 : S.s1 = true → (lmd.isPrefixOf (H.s.drop x.pos) || lno.isPrefixOf (H.s.drop x.pos)) = false) (hs2 : S.dv = true → S.s2 = true → dvOn true x = true → (divr x.org).isPrefixOf (H.s.drop x.pos) = false) (hs3 : S.dv = true → S.s2 = false → x.chk = false) :
    ∀ w, Cl X (cM H x st W gd q (secM H S) G) w → Calls Tryz.prog 84 #[pS H, fnV 54] w fun e w' => ∃ qw : RS × Nat, e = .returned (stV (lexR envT H.s S.dv (atP H.s x)).2) ∧ Cl X (cM H (lexR envT H.s S.dv (atP H.s x)).1 st qw.2 gd qw.1 (secM H S) G) w' ∧ StOk X H (lexR envT H.s S.dv (atP H.s x)).1 qw.1 G := by
  intro w hw
  rcases (Bool.eq_false_or_eq_true S.dv).symm with hdv | hdv
  · rw [secM_eq hdv] at hw ⊢
    rw [hdv]
    exact (hlexF_calls hX hal hS hf hnl st W gd hp1 hs1 w hw).mono fun e w' ⟨q', W', h⟩ => ⟨(q', W'), h⟩
  · rw [secM_eq hdv] at hw ⊢
    rw [hdv]
    exact (hlexT_calls hX hal hS hf hnl st W gd hp1 hs1 (hs2 hdv) (hs3 hdv) w hw).mono fun e w' ⟨q', W', h⟩ => ⟨(q', W'), h⟩
theorem main_found' {E : Env} {s : T} {dv : Bool} {x : Lx} {k : Nat} (he : ¬ s.length ≤ x.pos) (h : found s dv x = some k) : main E s dv x = piece E s dv (atP s (mv k x)) := by
  unfold main atP
  rw [if_neg he, h]
  rfl
set_option maxHeartbeats 2000000 in
theorem main9 {Z X : Cx} {H : Hd} {F G : Mem} {w : World} {m0 : Mem} (hZ : Z = X.sub 48 w) (hw : Cl X m0 w) (hX : Ok Z H) {y : Lx} {q : RS} {S : Sec} (st : Value) (W gd : Nat) (dv : Bool) (r : Res) (hr : r = piece envT H.s dv (atP H.s y))
    (hcall : ∀ w, Cl Z (cM H y st W gd q F G) w → Calls Tryz.prog 84 #[pS H, fnV 54] w fun e w' => ∃ qw : RS × Nat, e = .returned (stV (lexR envT H.s dv (atP H.s y)).2) ∧ Cl Z (cM H (lexR envT H.s dv (atP H.s y)).1 st qw.2 gd qw.1 F G) w' ∧ StOk Z H (lexR envT H.s dv (atP H.s y)).1 qw.1 G)
    (R : Ending → World → Prop) (hR : ∀ (q' : RS) (W' : Nat) (w' : World), Cl X (cM H r.1 st W' gd q' F G) w' → StOk X H r.1 q' G → R (.returned (stV r.2)) w') :
    PJ Z ((codeOut Tryz.f54 9).wp Tryz.prog (bodyPost Tryz.prog Tryz.f54 R)) [(0, pL H)] (cM H y st W gd q F G) := by
  subst hZ
  subst hr
  conv => arg 2; arg 2; whnf
  obtain ⟨u, hu⟩ : ∃ u, (lexR envT H.s dv (atP H.s y)).2 = u := ⟨_, rfl⟩
  cases u with
  | none =>
    obtain ⟨h1, h2⟩ := lexR_err hu
    rw [h1] at hcall
    rw [h2] at hR
    repeat' (first | refine cseq ?_ | refine rtext ?_ | refine cfalse rfl ?_ | refine cskip ?_ | refine cret ?_ | refine jnil ?_ | (first | refine jmv rfl rfl rfl ?_ | refine jy (ynil rfl) rfl rfl ?_ | (show Jo _ (.fieldAddr _ _ _); refine jy (yfield rfl (by first | exact fb110_3 | exact fb110_0 | exact fb110_6) rfl) rfl rfl ?_) | (show Jo _ (.load _ _); refine jy (yload (i := 0) rfl rfl rfl one3) rfl rfl ?_) | refine jas_ rfl rfl rfl ?_ | (show Jo _ (.binOp _ _ _ _ _); ((show Jo (some 38) (.binOp .neq _ _ _ _); refine jy (yfn rfl rfl fn104 (nilF_stV _)) rfl rfl ?_))) | (show Jo _ (.store _ _ _); refine jstore (i := 0) rfl rfl rfl rfl rfl si3 hX.mL ?_) | (show Jo _ (.call _); first | (show Jo (some 36) (.call _); refine jcall (ι := RS × Nat) (vs := [pS H, fnV 54]) _ bo104 rfl rfl rfl hcall (fun q1 hS1 => ?_)) | (show Jo _ (.call ⟨.builtin .len, _, _⟩); refine jy (v := .int .i64 (H.s.length : Nat)) (ylenl rfl und59) rfl rfl ?_))))
    exact ret1 rfl rfl rfl (fun w' hw' => hR q1.1 q1.2 w' (hw.up hw') ((StOk.up hw hS1).mv rfl (Nat.le_refl _) (Nat.le_trans (StOk.up hw hS1).s (StOk.up hw hS1).p)))
  | some t =>
    rw [lexR_ok (by rw [hu]; exact fun h => by cases h)] at hR
    generalize lexR envT H.s dv (atP H.s y) = rr at hu hcall hR
    obtain ⟨r1, r2⟩ := rr
    dsimp only at hu
    subst hu
    repeat' (first | refine cseq ?_ | refine rtext ?_ | refine ctrue rfl ?_ | refine cret ?_ | refine tret ?_ | refine jnil ?_ | (first | refine jmv rfl rfl rfl ?_ | refine jy (ynil rfl) rfl rfl ?_ | (show Jo _ (.fieldAddr _ _ _); refine jy (yfield rfl fb110_6 rfl) rfl rfl ?_) | (show Jo _ (.load _ _); refine jy (yload (i := 0) rfl rfl rfl one3) rfl rfl ?_) | refine jas_ rfl rfl rfl ?_ | (show Jo _ (.binOp _ _ _ _ _); ((show Jo (some 38) (.binOp .neq _ _ _ _); refine jy (yfn rfl rfl fn104 (nilF_stV _)) rfl rfl ?_))) | (show Jo _ (.call _); ((show Jo (some 36) (.call _); refine jcall (ι := RS × Nat) (vs := [pS H, fnV 54]) _ bo104 rfl rfl rfl hcall (fun q1 hS1 => ?_))))))
    exact ret1 rfl rfl rfl (fun w' hw' => hR q1.1 q1.2 w' (hw.up hw') (StOk.up hw hS1))
set_option maxHeartbeats 2000000 in
theorem main_walk {X : Cx} {H : Hd} {G : Mem} (hX : Ok X H) {S : Sec} (hSm : SecMay X H S) {x : Lx} {q : RS} (hS : StOk X H x q G) (hok : SecOk H.s x S) (hf : x.items.length < 999999998000) (hnl : x.name.size ≤ 4611686018427387904) (st : Value) (W gd : Nat) : ∀ w, Cl X (cM H x st W gd q (secM H S) G) w →
    Calls Tryz.prog 54 #[pL H] w fun e w' => ∃ (q' : RS) (W' : Nat) (S' : Sec), e = .returned (stV (main envT H.s S.dv x).2) ∧ Cl X (cM H (main envT H.s S.dv x).1 st W' gd q' (secM H S') G) w' ∧ StOk X H (main envT H.s S.dv x).1 q' G ∧ SecR S S' ∧ SecOk H.s x S' := by
  intro w hw
  refine enterC 48 hw Tryz.func54 rfl rfl (vs := [pL H]) rfl ?_
  replace hX := hX.sub hw 48
  replace hS := hS.sub 48 w
  replace hSm := hSm.sub 48 w
  have hbig := hX.big
  conv => arg 2; arg 2; whnf
  by_cases he : H.s.length ≤ x.pos
  · have hEO : decide (H.s.length ≤ x.pos) = true := decide_eq_true he
    have e1 : main envT H.s S.dv x = (x, some .done) := by unfold main; rw [if_pos he]
    rw [e1]
    repeat' (first | refine cseq ?_ | refine rtext ?_ | refine ctrue rfl ?_ | refine cret ?_ | refine tret ?_ | refine jnil ?_ | (first | refine jmv rfl rfl rfl ?_ | refine jas_ rfl rfl rfl ?_ | (show Jo _ (.call _); ((show Jo (some 6) (.call _); refine jcallq (v := .bool (decide (H.s.length ≤ x.pos))) bo101 rfl rfl rfl (quietC fun w' hw' => isEOF_calls (l := lsOf x st W (fV gd (divr x.org)) q.val) (hw'.1.sub (List.Sublist.cons_cons _ (List.nil_sublist _)))) ?_; rw [hEO])))))
    exact ret1 rfl rfl rfl (fun w' hw' => ⟨q, W, S, rfl, hw.up hw', StOk.up hw hS, SecR.rfl', hok⟩)
  have hEO : decide (H.s.length ≤ x.pos) = false := decide_eq_false he
  cases hfd : found H.s S.dv x with
  | none =>
    have e1 : main envT H.s S.dv x = ({ x with pos := H.s.length }, some .done) := by unfold main; rw [if_neg he, hfd]
    rw [e1]
    have hz : optI none = -1 := rfl
    repeat' (first | refine cseq ?_ | refine rtext ?_ | refine ctrue rfl ?_ | refine cfalse rfl ?_ | refine cskip ?_ | refine cret ?_ | refine tret ?_ | refine jnil ?_ | (first | refine jmv rfl rfl rfl ?_ | refine jy (ynil rfl) rfl rfl ?_ | (show Jo _ (.fieldAddr _ _ _); refine jy (yfield rfl (by first | exact fb110_3 | exact fb110_0 | exact fb110_6) rfl) rfl rfl ?_) | (show Jo _ (.load _ _); refine jy (yload (i := 0) rfl rfl rfl one3) rfl rfl ?_) | refine jas_ rfl rfl rfl ?_ | (show Jo _ (.binOp _ _ _ _ _); refine jy (yeql rfl rfl (by (exact decide_eq_true (by omega)))) rfl rfl ?_) | (show Jo _ (.store _ _ _); refine jstore (i := 0) rfl rfl rfl rfl rfl si3 hX.mL ?_) | (show Jo _ (.call _); first | (show Jo (some 6) (.call _); refine jcallq (v := .bool (decide (H.s.length ≤ x.pos))) bo101 rfl rfl rfl (quietC fun w' hw' => isEOF_calls (l := lsOf x st W (fV gd (divr x.org)) q.val) (hw'.1.sub (List.Sublist.cons_cons _ (List.nil_sublist _)))) ?_; rw [hEO]) | (show Jo (some 11) (.call _); refine jcall (ι := Sec) (vs := [pS H]) (v := fun _ => .int .i64 (optI (found H.s S.dv x))) (m' := fun S' => cM H x st W gd q (secM H S') G) (fun S' => SecR S S' ∧ SecOk H.s x S' ∧ (S'.all = false → S'.s1 = (idx lsc (H.s.drop x.pos)).isNone ∧ (S.dv = true → S'.s2 = (idxD H.s x).isNone))) bo103 rfl rfl rfl (skip_calls hX hSm hS.p hok st W gd) (fun S1 hS1 => ?_); rw [hfd]) | (show Jo _ (.call ⟨.builtin .len, _, _⟩); refine jy (v := .int .i64 (H.s.length : Nat)) (ylenl rfl und59) rfl rfl ?_))))
    exact ret1 rfl rfl rfl (fun w' hw' => ⟨q, W, S1, rfl, hw.up hw', (StOk.up hw hS).mv rfl (Nat.le_refl _) (Nat.le_trans hS.s hS.p), hS1.1, hS1.2.1⟩)
  | some k =>
    have hz : optI (some k) = k := rfl
    rw [main_found' he hfd]
    have hps := found_pos hfd
    have h9 : ∀ (S1 : Sec), SecR S S1 → SecOk H.s x S1 → (S1.all = false → S1.s1 = (idx lsc (H.s.drop x.pos)).isNone ∧ (S.dv = true → S1.s2 = (idxD H.s x).isNone)) → PJ (X.sub 48 w) ((codeOut Tryz.f54 9).wp Tryz.prog (bodyPost Tryz.prog Tryz.f54 fun e w' => ∃ (q' : RS) (W' : Nat) (S' : Sec), e = .returned (stV (piece envT H.s S.dv (atP H.s (mv k x))).2) ∧ Cl X (cM H (piece envT H.s S.dv (atP H.s (mv k x))).1 st W' gd q' (secM H S') G) w' ∧ StOk X H (piece envT H.s S.dv (atP H.s (mv k x))).1 q' G ∧ SecR S S' ∧ SecOk H.s x S')) [(0, pL H)] (cM H (mv k x) st W gd q (secM H S1) G) := by
      intro S1 hR hO hE
      have hal1 : S1.all = false := by
        rcases (Bool.eq_false_or_eq_true S1.all).symm with h | h
        · exact h
        · have := hO.al h
          rw [hR.dv, hfd] at this
          cases this
      obtain ⟨hE1, hE2⟩ := hE hal1
      have hdr : H.s.drop (mv k x).pos = (H.s.drop x.pos).drop k := by rw [List.drop_drop]; rfl
      have hcall := hlex_calls (G := G) hX hal1 (hS.mv (y := mv k x) rfl (by show x.pos + k ≤ _; omega) (Nat.le_trans hS.s (Nat.le_add_right _ _))) hf hnl st W gd hps
        (fun h => by rw [hdr]; exact noPre (idx_drop (by decide) _ _ (Option.isNone_iff_eq_none.1 (hE1 ▸ h))))
        (fun h0 h h2 => by
          have h3 : idxD H.s x = none := Option.isNone_iff_eq_none.1 ((hE2 (hR.dv ▸ h0)) ▸ h)
          unfold idxD at h3
          have h4 : x.chk = false := by
            rcases (Bool.eq_false_or_eq_true x.chk).symm with h | h
            · exact h
            · unfold dvOn at h2
              rw [show (mv k x).chk = x.chk from rfl, h] at h2
              cases h2
          rw [if_neg (by rw [h4]; exact Bool.noConfusion)] at h3
          rw [hdr]
          have h5 := idx_drop (show divr x.org ≠ [] by cases x.org <;> decide) _ k h3
          rcases (Bool.eq_false_or_eq_true ((divr (mv k x).org).isPrefixOf ((H.s.drop x.pos).drop k))).symm with h | h
          · exact h
          · rw [show (mv k x).org = x.org from rfl] at h
            rw [idx_cons_pre h] at h5
            cases h5)
        (fun h0 h => by
          have h3 := hE2 (hR.dv ▸ h0)
          rw [h] at h3
          unfold idxD at h3
          show x.chk = false
          rcases (Bool.eq_false_or_eq_true x.chk).symm with h | h
          · exact h
          · rw [if_pos h] at h3
            cases h3)
      rw [hR.dv] at hcall
      exact main9 rfl hw hX (S := S1) st W gd S.dv _ rfl hcall _ fun q' W' w' h2 h3 => ⟨q', W', S1, rfl, h2, h3, hR, hO⟩
    by_cases hk0 : 0 < k
    · repeat' ((fail_if_success (show PJ _ (Code.wp _ (Code.seq (Code.region 9 _ _) _) _) _ _)); first | first | refine cseq ?_ | refine rtext ?_ | refine ctrue rfl ?_ | refine cfalse rfl ?_ | refine cskip ?_ | refine jnil ?_ | (first | refine jmv rfl rfl rfl ?_ | refine jy (ynil rfl) rfl rfl ?_ | (show Jo _ (.fieldAddr _ _ _); refine jy (yfield rfl (by first | exact fb110_3 | exact fb110_6) rfl) rfl rfl ?_) | (show Jo _ (.load _ _); refine jy (yload (i := 0) rfl rfl rfl one3) rfl rfl ?_) | refine jas_ rfl rfl rfl ?_ | (show Jo _ (.binOp _ _ _ _ _); first | (show Jo _ (.binOp .gtr _ _ _ _); refine jy (ygtr rfl rfl (by (exact decide_eq_true (by omega)))) rfl rfl ?_) | (show Jo (some 29) (.binOp .add _ _ _ _); refine jy (yadd (c := ((x.pos + k : Nat) : Int)) rfl rfl (by dsimp only [lsOf]; rw [i64_in (by omega) (by omega)]; omega)) rfl rfl ?_) | refine jy (yeql rfl rfl (by (exact decide_eq_false (by omega)))) rfl rfl ?_) | (show Jo _ (.store _ _ _); refine jstore (i := 0) rfl rfl rfl rfl rfl si3 hX.mL ?_) | (show Jo _ (.call _); first | (show Jo (some 6) (.call _); refine jcallq (v := .bool (decide (H.s.length ≤ x.pos))) bo101 rfl rfl rfl (quietC fun w' hw' => isEOF_calls (l := lsOf x st W (fV gd (divr x.org)) q.val) (hw'.1.sub (List.Sublist.cons_cons _ (List.nil_sublist _)))) ?_; rw [hEO]) | (show Jo (some 11) (.call _); refine jcall (ι := Sec) (vs := [pS H]) (v := fun _ => .int .i64 (optI (found H.s S.dv x))) (m' := fun S' => cM H x st W gd q (secM H S') G) (fun S' => SecR S S' ∧ SecOk H.s x S' ∧ (S'.all = false → S'.s1 = (idx lsc (H.s.drop x.pos)).isNone ∧ (S.dv = true → S'.s2 = (idxD H.s x).isNone))) bo103 rfl rfl rfl (skip_calls hX hSm hS.p hok st W gd) (fun S1 hS1 => ?_); rw [hfd]))))
      exact fin (h9 S1 hS1.1 hS1.2.1 hS1.2.2) ⟨rfl, trivial⟩ rfl
    · obtain rfl : k = 0 := by omega
      repeat' ((fail_if_success (show PJ _ (Code.wp _ (Code.seq (Code.region 9 _ _) _) _) _ _)); first | first | refine cseq ?_ | refine rtext ?_ | refine cfalse rfl ?_ | refine cskip ?_ | refine jnil ?_ | (first | refine jmv rfl rfl rfl ?_ | refine jy (ynil rfl) rfl rfl ?_ | (show Jo _ (.fieldAddr _ _ _); refine jy (yfield rfl fb110_6 rfl) rfl rfl ?_) | (show Jo _ (.load _ _); refine jy (yload (i := 0) rfl rfl rfl one3) rfl rfl ?_) | refine jas_ rfl rfl rfl ?_ | (show Jo _ (.binOp _ _ _ _ _); first | (show Jo _ (.binOp .gtr _ _ _ _); refine jy (ygtr rfl rfl (by (exact decide_eq_false (by omega)))) rfl rfl ?_) | refine jy (yeql rfl rfl (by (exact decide_eq_false (by omega)))) rfl rfl ?_) | (show Jo _ (.call _); first | (show Jo (some 6) (.call _); refine jcallq (v := .bool (decide (H.s.length ≤ x.pos))) bo101 rfl rfl rfl (quietC fun w' hw' => isEOF_calls (l := lsOf x st W (fV gd (divr x.org)) q.val) (hw'.1.sub (List.Sublist.cons_cons _ (List.nil_sublist _)))) ?_; rw [hEO]) | (show Jo (some 11) (.call _); refine jcall (ι := Sec) (vs := [pS H]) (v := fun _ => .int .i64 (optI (found H.s S.dv x))) (m' := fun S' => cM H x st W gd q (secM H S') G) (fun S' => SecR S S' ∧ SecOk H.s x S' ∧ (S'.all = false → S'.s1 = (idx lsc (H.s.drop x.pos)).isNone ∧ (S.dv = true → S'.s2 = (idxD H.s x).isNone))) bo103 rfl rfl rfl (skip_calls hX hSm hS.p hok st W gd) (fun S1 hS1 => ?_); rw [hfd]))))
      exact fin (h9 S1 hS1.1 hS1.2.1 hS1.2.2) ⟨rfl, trivial⟩ rfl
@[reducible] def preX (u : Option Lex0.St) (x : Lx) : Lx := if jo u then mv 1 x else x
structure SI (s : T) (st : Lex0.St) (x : Lx) (S : Sec) : Prop where
  ok : SecOk s x S
  no : mainSt st = false → S.all = false ∧ S.s1 = false ∧ S.s2 = false
theorem SecOk.free {s : T} {x y : Lx} {S : Sec} (h : SecOk s x S) (hn : S.all = false ∧ S.s1 = false ∧ S.s2 = false) : SecOk s y S := ⟨(fun a => by rw [hn.1] at a; cases a), (fun a => by rw [hn.2.1] at a; cases a), (fun _ a => by rw [hn.2.2] at a; cases a), h.kc, h.kl⟩
def StepR (X : Cx) (H : Hd) (sv : Value) (S : Sec) (r : Res) (e : Ending) (w' : World) : Prop := ∃ (q' : RS) (W' : Nat) (G' : Mem) (S' : Sec) (gd' : Nat), e = .returned (stV r.2) ∧ Cl X (cM H (preX r.2 r.1) sv W' gd' q' (secM H S') G') w' ∧ StOk X H r.1 q' G' ∧ (jo r.2 = true → W' = 1) ∧ SecR S S' ∧ (∀ st', r.2 = some st' → SI H.s st' r.1 S')
theorem jo_main {u : Option Lex0.St} (h : ∀ st, u = some st → mainSt st = true) : jo u = false := by
  cases u with
  | none => rfl
  | some st =>
    have := h st rfl
    cases st <;> first | rfl | cases this
theorem step_main {E : Env} {s : T} {dv : Bool} {st : Lex0.St} {x : Lx} (hst : mainSt st = true) (st' : Lex0.St) (h : (Lex0.step E s dv st x).2 = some st') : mainSt st' = true := main_st (dv := dv) (E := E) (s := s) (x := x) (y := (Lex0.step E s dv st x).1) hst (by rw [← h])
theorem env_al : envT.al (-1) = false := by kernel_rfl
theorem stepR_of {X : Cx} {H : Hd} {sv : Value} {gd : Nat} {S S' : Sec} {st : Lex0.St} {x : Lx} {e : Ending} {w' : World} (hst : mainSt st = true) (hg : Lex0.Good envT H.s st x) (hR : SecR S S') (hO : SecOk H.s x S') (h : SR X H sv gd (secM H S') (Lex0.step envT H.s S.dv st x) e w') : StepR X H sv S (Lex0.step envT H.s S.dv st x) e w' := by
  obtain ⟨q', W, G', h1, h2, h3⟩ := h
  have hm : ∀ st', (Lex0.step envT H.s S.dv st x).2 = some st' → mainSt st' = true := step_main hst
  have hj := jo_main hm
  have hk := kp_step (E := envT) (s := H.s) (dv := S.dv) hst x
  have hf := (step_fwd (dv := S.dv) env_al hg).1
  refine ⟨q', W, G', S', gd, h1, ?_, h3, fun h => ?_, hR, fun st' hs => ⟨hO.fwd hf.le hk.o hk.c, fun hn => ?_⟩⟩
  · unfold preX
    rw [hj, if_neg (by simp)]
    exact h2
  · rw [hj] at h; cases h
  · rw [hm st' hs] at hn; cases hn
theorem step_calls {X : Cx} {H : Hd} {G : Mem} (hX : Ok X H) (hl32 : H.s.length ≤ 4294967296) {S : Sec} (hSm : SecMay X H S) {st : Lex0.St} {x : Lx} {q : RS} {W : Nat} (hg : Lex0.Good envT H.s st x) (hS : StOk X H x q G) (hSI : SI H.s st x S) (hf : x.items.length < 999999990000) (hstp : x.step < 4611686018427387904) (hcl : x.closing < 4611686018427387904) (hnl : x.name.size ≤ 4611686018427387904) (hW : jo (some st) = true → W = 1) (sv : Value) (gd : Nat) :
    ∀ w, Cl X (cM H (preX (some st) x) sv W gd q (secM H S) G) w → Calls Tryz.prog (stF st) #[pL H] w (StepR X H sv S (Lex0.step envT H.s S.dv st x)) := by
  intro w hw
  have hf9 : x.items.length < 999999999000 := by omega
  have hh := hg.h
  have hp3 : ∀ {p : T}, p.isPrefixOf (H.s.drop x.pos) = true → p.length = 3 → x.pos + 3 ≤ H.s.length := fun h1 h2 => by
    have := Lex0.pre_len h1
    rw [List.length_drop] at this
    omega
  cases st with
  | main =>
    refine (main_walk hX hSm hS hSI.ok (by omega) hnl sv W gd w hw).mono fun e w' ⟨q', W', S', h1, h2, h3, h4, h5⟩ => ?_
    exact stepR_of (st := .main) rfl hg h4 h5 ⟨q', W', G, h1, h2, h3⟩
  | done => exact (done_calls hX hS hf9 sv W gd w hw).mono fun e w' h => stepR_of (st := .done) rfl hg SecR.rfl' hSI.ok h
  | left => exact (left_calls hX hS hf9 (hp3 hh (lf3 _)) sv W gd w hw).mono fun e w' h => stepR_of (st := .left) rfl hg SecR.rfl' hSI.ok h
  | right => exact (right_calls hX hS hf9 (hp3 hh (rd3 _)) sv W gd w hw).mono fun e w' h => stepR_of (st := .right) rfl hg SecR.rfl' hSI.ok h
  | comment => exact (comment_calls hX hS hf9 sv W gd w hw).mono fun e w' h => stepR_of (st := .comment) rfl hg SecR.rfl' hSI.ok h
  | inside => exact (inside_calls hX hl32 hS hf9 hcl trS sv W gd w hw).mono fun e w' h => stepR_of (st := .inside) rfl hg SecR.rfl' hSI.ok h
  | pval => exact (pval_calls hX hS hf9 sv W gd w hw).mono fun e w' h => stepR_of (st := .pval) rfl hg SecR.rfl' hSI.ok h
  | ident => exact (ident_calls hX hS hf9 hstp trS sv W gd w hw).mono fun e w' h => stepR_of (st := .ident) rfl hg SecR.rfl' hSI.ok h
  | endsc => exact (endsc_calls hX hS hf9 sv W gd w hw).mono fun e w' h => stepR_of (st := .endsc) rfl hg SecR.rfl' hSI.ok h
  | intro =>
    refine (intro_calls hX hS hf sv W gd w hw).mono fun e w' ⟨q', W', G', h1, h2, h3, h4⟩ => ⟨q', W', G', S, gd, h1, h2, h3, h4, SecR.rfl', fun st' _ => ⟨hSI.ok.free (hSI.no rfl), fun _ => hSI.no rfl⟩⟩
  | json =>
    obtain rfl := hW rfl
    refine (json_calls hX hS hf9 hh sv gd w hw).mono fun e w' ⟨q', W', G', h1, h2, h3⟩ => ?_
    have hj : jo (json H.s x).2 = false := by unfold json; split <;> rfl
    refine ⟨q', W', G', S, gd, h1, ?_, h3, (fun h => by rw [show (Lex0.step envT H.s S.dv .json x) = json H.s x from rfl, hj] at h; cases h), SecR.rfl', fun st' _ => ⟨hSI.ok.free (hSI.no rfl), fun _ => hSI.no rfl⟩⟩
    show Cl X (cM H (if jo (json H.s x).2 then mv 1 (json H.s x).1 else (json H.s x).1) sv W' gd q' (secM H S) G') w'
    rw [hj]
    exact h2
  | org =>
    obtain rfl := hW rfl
    refine (org_calls hX hS hf9 (by obtain ⟨r, hr⟩ := hh; have := congrArg List.length hr; rw [List.length_drop, List.length_cons] at this; omega) sv gd w hw).mono fun e w' ⟨g', q', W', G', h1, h2, h3⟩ => ?_
    have hj : jo (org H.s x).2 = false := by unfold org; split <;> rfl
    refine ⟨q', W', G', S, g', h1, ?_, h3, (fun h => by rw [show (Lex0.step envT H.s S.dv .org x) = org H.s x from rfl, hj] at h; cases h), SecR.rfl', fun st' _ => ⟨hSI.ok.free (hSI.no rfl), fun _ => hSI.no rfl⟩⟩
    show Cl X (cM H (if jo (org H.s x).2 then mv 1 (org H.s x).1 else (org H.s x).1) sv W' g' q' (secM H S) G') w'
    rw [hj]
    exact h2
theorem bo106 : bodyB Tryz.prog 86 = true := by kernel_rfl
theorem bo_stF (st : Lex0.St) : bodyB Tryz.prog (stF st) = true := by
  cases st with
  | main => exact bo68
  | done => exact bo102
  | left => exact bo141
  | comment => exact bo157
  | right => exact bo169
  | inside => exact bo159
  | pval => exact bo173
  | ident => exact bo177
  | endsc => exact bo190
  | intro => exact bo67
  | json => exact bo97
  | org => exact bo98
theorem fence_name {s : T} {c : UInt8} {ty : Nat} {x : Lx} : (fence s c ty x).1.name = x.name := by
  unfold fence
  dsimp only
  split
  · split
    · split
      · split <;> rfl
      · rfl
    · rfl
  · split <;> rfl
  · rfl
theorem front_name {E : Env} {s : T} {dv : Bool} {st : Lex0.St} {x : Lx} (h : mainSt st = false) : (Lex0.step E s dv st x).1.name = x.name := by
  cases st with
  | intro =>
    show (intro s x).1.name = x.name
    unfold intro
    dsimp only
    split
    · rfl
    · split
      · exact fence_name
      · split
        · exact fence_name
        · split
          · rfl
          · split <;> rfl
  | json => show (json s x).1.name = x.name; unfold json; split <;> rfl
  | org => show (org s x).1.name = x.name; unfold org; split <;> rfl
  | _ => cases h
structure RI where
  u : Option Lex0.St
  x : Lx
  q : RS
  W : Nat
  G : Mem
  S : Sec
  gd : Nat
structure RP (X : Cx) (H : Hd) (S0 : Sec) (l : List Itm) (n : Nat) (i : RI) : Prop where
  ok : StOk X H i.x i.q i.G
  w : jo i.u = true → i.W = 1
  r : SecR S0 i.S
  go : ∀ st, i.u = some st → ∃ k, n = k + 1 ∧ Lex0.Good envT H.s st i.x ∧ SI H.s st i.x i.S ∧ RunsN envT H.s S0.dv k st i.x l ∧ i.x.items.length + 6 * n ≤ 999999990000 ∧ i.x.step + n ≤ 4611686018427387904 ∧ i.x.closing + n ≤ 4611686018427387904 ∧ i.x.name.size ≤ 4294967296
  e : i.u = none → i.x.items = l
def riM (H : Hd) (i : RI) : Mem := cM H (preX i.u i.x) (stV i.u) i.W i.gd i.q (secM H i.S) i.G
theorem runs_step {E : Env} {s : T} {dv : Bool} {k : Nat} {st : Lex0.St} {x : Lx} {l : List Itm} (h : RunsN E s dv k st x l) : (∀ st', (Lex0.step E s dv st x).2 = some st' → ∃ j, k = j + 1 ∧ RunsN E s dv j st' (Lex0.step E s dv st x).1 l) ∧ ((Lex0.step E s dv st x).2 = none → (Lex0.step E s dv st x).1.items = l) := by
  cases h with
  | stop h => rw [h]; exact ⟨fun st' h => (by cases h), fun _ => rfl⟩
  | go h1 h2 => rw [h1]; exact ⟨fun st' h => (by cases h; exact ⟨_, rfl, h2⟩), fun h => (by cases h)⟩
set_option maxHeartbeats 2000000 in
theorem run_calls {X : Cx} {H : Hd} {G : Mem} (hX : Ok X H) (hl32 : H.s.length ≤ 4294967296) {S : Sec} (hSm : SecMay X H S) {st0 : Lex0.St} (hst0 : H.st0 = stV (some st0)) (hj0 : jo (some st0) = false) {x : Lx} {q : RS} {W : Nat} (sv : Value) (gd : Nat) (l : List Itm) (N : Nat)
    (hg : Lex0.Good envT H.s st0 x) (hS : StOk X H x q G) (hSI : SI H.s st0 x S) (hr : RunsN envT H.s S.dv N st0 x l) (hf : x.items.length + 6 * (N + 1) ≤ 999999990000) (hstp : x.step + (N + 1) ≤ 4611686018427387904) (hcl : x.closing + (N + 1) ≤ 4611686018427387904) (hnl : x.name.size ≤ 4294967296) :
    ∀ w, Cl X (cM H x sv W gd q (secM H S) G) w → Calls Tryz.prog 86 #[pL H] w fun e w' => ∃ i : RI, e = .returned (pL H) ∧ Cl X (cM H i.x (stV i.u) i.W i.gd i.q (secM H i.S) i.G) w' ∧ StOk X H i.x i.q i.G ∧ i.x.items = l ∧ SecR S i.S := by
  intro w hw
  refine enterC 25 hw Tryz.func86 rfl rfl (vs := [pL H]) rfl ?_
  replace hX := hX.sub hw 25
  replace hS := hS.sub 25 w
  replace hSm := hSm.sub 25 w
  conv => arg 2; arg 2; whnf
  have hst1 : ∀ u : Option Lex0.St, (stV u).oneCell' = true := fun u => by cases u <;> rfl
  have hst0' : H.st0.oneCell' = true := by rw [hst0]; rfl
  repeat' (first | refine cseq ?_ | refine rtext ?_ | refine cblk ?_ | refine jnil ?_ | (first | refine jmv rfl rfl rfl ?_ | refine jy (ynil rfl) rfl rfl ?_ | (show Jo _ (.fieldAddr _ _ _); refine jy (yfield rfl (by first | exact fb110_1 | exact fb110_2) rfl) rfl rfl ?_) | (show Jo _ (.load _ _); refine jy (yload (i := 0) rfl rfl rfl one104) rfl rfl ?_) | refine jas_ rfl rfl rfl ?_ | (show Jo _ (.store _ _ _); refine jstore (i := 0) rfl rfl rfl rfl hst0' si104 hX.mL ?_)))
  refine fin (f' := [(0, pL H)]) (m' := riM H ⟨some st0, x, q, W, G, S, gd⟩)
    (cloop (ι := RI) (fun _ => [(0, pL H)]) (fun i => riM H i) (RP (X.sub 25 w) H S l) (N + 1) ⟨some st0, x, q, W, G, S, gd⟩
      ⟨hS, (fun h => by rw [hj0] at h; cases h), SecR.rfl', (fun st h => by cases h; exact ⟨N, rfl, hg, hSI, hr, hf, hstp, hcl, hnl⟩), (fun h => by cases h)⟩ ?_) ⟨rfl, trivial⟩ (by unfold riM preX; dsimp only; rw [hj0, ← hst0]; rfl)
  rintro n ⟨u, y, q1, W1, G1, S1, gd1⟩ ⟨hok, hw1, hR, hgo, he⟩ K hK
  dsimp only at hok hw1 hR hgo he ⊢
  cases u with
  | none =>
    unfold riM
    dsimp only
    repeat' (first | refine cseq ?_ | refine rtext ?_ | refine cfalse rfl ?_ | refine cret ?_ | refine cexit ?_ | refine jnil ?_ | (first | refine jmv rfl rfl rfl ?_ | refine jy (ynil rfl) rfl rfl ?_ | (show Jo _ (.fieldAddr _ _ _); refine jy (yfield rfl fb110_2 rfl) rfl rfl ?_) | (show Jo _ (.load _ _); refine jy (yload (i := 0) rfl rfl rfl one104) rfl rfl ?_) | refine jas_ rfl rfl rfl ?_ | (show Jo _ (.binOp _ _ _ _ _); ((show Jo _ (.binOp .neq _ _ _ _); refine jy (yfn rfl rfl fn104 (nilF_stV none)) rfl rfl ?_)))))
    exact ret1 rfl rfl rfl (fun w' hw' => ⟨⟨none, y, q1, W1, G1, S1, gd1⟩, rfl, hw.up hw', StOk.up hw hok, he rfl, hR⟩)
  | some st =>
    obtain ⟨k, rfl, g1, g2, g3, g4, g5, g6, g7⟩ := hgo st rfl
    have hcall : ∀ w', Cl (X.sub 25 w) (cM H (preX (some st) y) (stV (some st)) W1 gd1 q1 (secM H S1) G1) w' → Calls Tryz.prog (stF st) #[pL H] w' fun e w'' => ∃ i : RI, e = .returned (stV i.u) ∧ Cl (X.sub 25 w) (cM H (preX i.u i.x) (stV (some st)) i.W i.gd i.q (secM H i.S) i.G) w'' ∧ RP (X.sub 25 w) H S l k i := by
      intro w1 hw1'
      have hmv := (step_fwd (dv := S1.dv) env_al g1)
      have hrs := runs_step (hR.dv ▸ g3)
      have hnm : (Lex0.step envT H.s S1.dv st y).1.name.size ≤ 4294967296 := by
        rcases (Bool.eq_false_or_eq_true (mainSt st)).symm with hm | hm
        · rw [front_name hm]; exact g7
        · rcases (kp_step (E := envT) (s := H.s) (dv := S1.dv) hm y).n with h | ⟨a, b, h⟩
          · rw [h]; exact g7
          · rw [h]; exact Nat.le_trans (ba_size_le _ _ _) hl32
      obtain ⟨hm1, hm2⟩ := hmv
      obtain ⟨ks, hi1, hi2⟩ := hm1.its
      refine (step_calls hX hl32 (hR.may hSm) g1 hok g2 (by omega) (by omega) (by omega) (by omega) hw1 (stV (some st)) gd1 w1 hw1').mono fun e w'' ⟨q', W', G', S', gd', h1, h2, h3, h4, h5, h6⟩ =>
        ⟨⟨(Lex0.step envT H.s S1.dv st y).2, (Lex0.step envT H.s S1.dv st y).1, q', W', G', S', gd'⟩, h1, h2, h3, h4, hR.trans h5, fun st' hs => ?_, fun hs => hrs.2 hs⟩
      obtain ⟨j, rfl, hj⟩ := hrs.1 st' hs
      have hl := congrArg List.length hi1
      rw [List.length_append] at hl
      have hs1 := hm1.stp
      have hs2 := hm1.cl
      exact ⟨j, rfl, ⟨hm1.p, hm1.s, (hm2 st' hs).1⟩, h6 st' hs, hR.dv ▸ hj, by dsimp only; omega, by dsimp only; omega, by dsimp only; omega, hnm⟩
    unfold riM
    dsimp only
    repeat' (first | refine cseq ?_ | refine rtext ?_ | refine ctrue rfl ?_ | refine cskip ?_ | refine cblk ?_ | refine tnorm ?_ | refine bnorm ?_ | refine jnil ?_ | (first | refine jmv rfl rfl rfl ?_ | refine jy (ynil rfl) rfl rfl ?_ | (show Jo _ (.fieldAddr _ _ _); refine jy (yfield rfl fb110_2 rfl) rfl rfl ?_) | (show Jo _ (.load _ _); refine jy (yload (i := 0) rfl rfl rfl one104) rfl rfl ?_) | (show Jo _ (.binOp _ _ _ _ _); ((show Jo _ (.binOp .neq _ _ _ _); refine jy (yfn rfl rfl fn104 (nilF_stV (some st))) rfl rfl ?_))) | (show Jo _ (.store _ _ _); refine jstore (i := 0) rfl rfl rfl rfl (by (exact hst1 _)) si104 hX.mL ?_) | (show Jo _ (.call _); ((show Jo (some 21) (.call _); refine jcallC (k := stF st) (us := []) (vs := [pL H]) (ι := RI) _ rfl (bo_stF st) rfl rfl rfl hcall (fun i1 hi1 => ?_))))))
    exact fin (hK k i1 (Nat.lt_succ_self _) hi1) ⟨rfl, trivial⟩ rfl
end Go.Proofs.YtkehggbmpdacpabGreatDoor.Pg
namespace Go.Rx
open Go.RowKit
section
variable {X : Cx} {P : Program} {f : Fr} {m : Mem} {d : Option Tmp} {ty : TypeId} {pos : String} {af : Array Edge} {gd : Option (Nat × Bool)}
variable {ops : Array Oper} {Q : Exit → Act → World → Prop} {K : Act → World → Prop} {rest : List Oper}
theorem jmakeC {dd : Nat} {x y : Operand} {t e size bytes l n : Nat} {k k' : IntKind} {i j : Int} (zs : List Value) (hx : evF f x = some (.int k i)) (hy : evF f y = some (.int k' j)) (hi : i = (l : Nat)) (hj : j = (n : Nat)) (hln : l ≤ n) (hg : growB P t e size bytes = true) (hz : ((P.info? e).bind (·.zero)).map (·.cells) = some zs.toArray) (h0 : Nat.blt 0 size = true)
    (hb : bytes * n ≤ 281474976710656) (h63 : n ≤ 4294967296) (hd : Nat.blt dd X.n = true)
    (h : ∀ g, X.w0.heap.size ≤ g → J false X P ops Q K rest ((dd, .slice (some ⟨g, 0, none⟩) l n) :: f) ((g, (List.replicate n zs).flatten, e) :: m)) : J false X P ops Q K (⟨some dd, .makeSlice t x y, ty, pos, af, none⟩ :: rest) f m := by
  subst hi
  subst hj
  refine jeff (ι := Nat) (v := fun g => .slice (some ⟨g, 0, none⟩) l n) (m' := fun g => (g, (List.replicate n zs).flatten, e) :: m) (fun g => X.w0.heap.size ≤ g) rfl hd (fun a w st => ⟨w.heap.size, w.alloc (.cells (List.replicate n zs).flatten.toArray e), .inl ?_, st.has.push _ _, st.evo.push _, st.evo.size⟩) (fun g hg => h g hg)
  obtain ⟨hu, inf, z, q1, q2, q3, q4, q5⟩ := growB_eq hg
  have hzc : z.cells = zs.toArray := by
    rw [q1] at hz
    simp only [Option.bind_some, q2, Option.map_some, Option.some.injEq] at hz
    exact hz
  have hl : zs.length = size := by rw [hzc, List.size_toArray] at q5; exact q5
  have h0' : 0 < size := Nat.blt_eq.mp h0
  have := run_make (P := P) w t e inf z hu q1 q2 k k' (l : Int) (n : Int) (by omega) (by omega) (by rw [q4, ← Int.natCast_mul]; omega) (by omega)
  rw [hzc, q3, ← hl] at this
  have hm : madeCells zs.toArray (n * zs.length) = (List.replicate n zs).flatten.toArray := by
    rw [← made_list zs (by omega) n]
  simp only [Int.toNat_natCast] at this
  rw [hm] at this
  simp only [execOp, st.agr.eval hx, st.agr.eval hy, Sem.run_bind, this]
  rfl
end
section
variable {qt : Bool} {X : Cx} {P : Program} {ops : Array Oper} {Q : Exit → Act → World → Prop} {K : Act → World → Prop} {l rest : List Oper} {f : Fr} {m mS : Mem} {o : Oper}
theorem ja3 {g g' : Nat} {D D1 D2 D3 : List Nat} {o1 o2 o3 : Oper} (i1 i2 i3 : Nat) (hD1 : appO D [i1] = some D1) (hD2 : appO D [i2] = some D2) (hD3 : appO D [i3] = some D3) (hg : Nat.beq (g' + 1) g = true) (hr : Region.ready .any l.toArray (lst l.length D) = [i1, i2, i3]) (ho1 : nthO l i1 = some o1) (ho2 : nthO l i2 = some o2) (ho3 : nthO l i3 = some o3)
    (h1 : J false X P l.toArray Q (WKeep X mS (WAny P l Q X mS g' D1)) [o1] f m) (h2 : J false X P l.toArray Q (WKeep X mS (WAny P l Q X mS g' D2)) [o2] f m) (h3 : J false X P l.toArray Q (WKeep X mS (WAny P l Q X mS g' D3)) [o3] f m) : PJ X (WAny P l Q X mS g D) f m := .of fun a w s => .of <| by
  obtain rfl := Nat.eq_of_beq_eq_true hg
  obtain rfl := appO_of hD1
  obtain rfl := appO_of hD2
  obtain rfl := appO_of hD3
  refine wpAnyH_all hr (by simp) fun j hj => ?_
  have e : j = i1 ∨ j = i2 ∨ j = i3 := by simpa using hj
  rcases e with rfl | rfl | rfl
  · refine wpOp_mono (fun a' w' h3 => ⟨h3.cl, ?_⟩) (jop ho1 h1 a w s)
    have := h3.out.out
    unfold lst at this ⊢
    rwa [List.foldl_append] at this
  · refine wpOp_mono (fun a' w' h3 => ⟨h3.cl, ?_⟩) (jop ho2 h2 a w s)
    have := h3.out.out
    unfold lst at this ⊢
    rwa [List.foldl_append] at this
  · refine wpOp_mono (fun a' w' h3 => ⟨h3.cl, ?_⟩) (jop ho3 h3 a w s)
    have := h3.out.out
    unfold lst at this ⊢
    rwa [List.foldl_append] at this
end
theorem nodup_pick {α : Type} : ∀ (is : List Nat) (l m : List α), l.Nodup → is.Nodup → is.map (l[·]?) = m.map some → m.Nodup
  | [], l, m, _, _, h => by
    cases m with
    | nil => exact List.nodup_nil
    | cons a r => cases h
  | i :: is, l, m, hl, hi, h => by
    cases m with
    | nil => cases h
    | cons a r =>
      rw [List.map_cons, List.map_cons, List.cons.injEq] at h
      obtain ⟨h1, h2⟩ := h
      obtain ⟨hi1, hi2⟩ := List.nodup_cons.1 hi
      refine List.nodup_cons.2 ⟨fun ha => ?_, nodup_pick is l r hl hi2 h2⟩
      obtain ⟨j, hj, hja⟩ : ∃ j ∈ is, l[j]? = some a := by
        have : some a ∈ is.map (l[·]?) := by rw [h2]; exact List.mem_map_of_mem ha
        obtain ⟨j, hj, e⟩ := List.mem_map.1 this
        exact ⟨j, hj, e⟩
      obtain ⟨hlt, _⟩ := List.getElem?_eq_some_iff.1 h1
      have := (List.getElem?_inj hlt hl).1 (h1.trans hja.symm)
      subst this
      exact hi1 hj
theorem Has.pick {m m' : Mem} {w : World} (is : List Nat) (h : Has m w) (hi : is.Nodup) (he : is.map (m[·]?) = m'.map some) : Has m' w := by
  have hm : ∀ x ∈ m', x ∈ m := fun x hx => by
    have : some x ∈ is.map (m[·]?) := by rw [he]; exact List.mem_map_of_mem hx
    obtain ⟨j, _, e⟩ := List.mem_map.1 this
    exact List.mem_of_getElem? e
  refine ⟨?_, fun x hx => h.blk x (hm x hx)⟩
  refine nodup_pick is (m.map (·.1)) _ h.ne hi ?_
  have := congrArg (List.map (Option.map (fun x : Nat × List Value × Bk => x.1))) he
  simpa [Function.comp_def] using this
theorem Cl.pick {X : Cx} {m m' : Mem} {w : World} (is : List Nat) (h : Cl X m w) (hi : is.Nodup) (he : is.map (m[·]?) = m'.map some) : Cl X m' w := ⟨h.1.pick is hi he, h.2⟩
theorem Has.pickA {A B E : Mem} {w : World} (is : List Nat) (h : Has (A ++ E) w) (hi : is.Nodup) (he : is.map (A[·]?) = B.map some) : Has (B ++ E) w := by
  have hm : ∀ x ∈ B, x ∈ A := fun x hx => by
    have : some x ∈ is.map (A[·]?) := by rw [he]; exact List.mem_map_of_mem hx
    obtain ⟨j, _, e⟩ := List.mem_map.1 this
    exact List.mem_of_getElem? e
  have hn := h.ne
  rw [List.map_append] at hn
  obtain ⟨hn1, hn2, hn3⟩ := List.nodup_append.1 hn
  refine ⟨?_, fun x hx => h.blk x ?_⟩
  · rw [List.map_append]
    refine List.nodup_append.2 ⟨?_, hn2, fun a ha b hb => hn3 a ?_ b hb⟩
    · refine nodup_pick is (A.map (·.1)) _ hn1 hi ?_
      have := congrArg (List.map (Option.map (fun x : Nat × List Value × Bk => x.1))) he
      simpa [Function.comp_def] using this
    · obtain ⟨x, hx, e⟩ := List.mem_map.1 ha
      exact List.mem_map.2 ⟨x, hm x hx, e⟩
  · rcases List.mem_append.1 hx with hx | hx
    · exact List.mem_append_left _ (hm x hx)
    · exact List.mem_append_right _ hx
theorem Cl.pickA {X : Cx} {A B E : Mem} {w : World} (is : List Nat) (h : Cl X (A ++ E) w) (hi : is.Nodup) (he : is.map (A[·]?) = B.map some) : Cl X (B ++ E) w := ⟨h.1.pickA is hi he, h.2⟩
end Go.Rx
namespace Go.Proofs.YtkehggbmpdacpabGreatDoor.Pg
open Go.Rx hiding bt
open Go.RowKit Go.Proofs.YtkehggbmpdacpabGreatDoor.Dec0 Go.Proofs.YtkehggbmpdacpabGreatDoor.Lex0
theorem bo123 : bodyB Tryz.prog 101 = true := by kernel_rfl
theorem fb83_1 : fieldB Tryz.prog 73 1 = some 1 := by kernel_rfl
theorem gr133 : growB Tryz.prog 110 114 1 8 = true := by kernel_rfl
theorem ze137 : ((Tryz.prog.info? 114).bind (·.zero)).map (·.cells) = some [Value.pointer none].toArray := by kernel_rfl
theorem ze3 : ((Tryz.prog.info? 3).bind (·.zero)).map (·.cells) = some [Value.int .i64 0].toArray := by kernel_rfl
theorem bu142 (g k k' : Nat) : Tryz.prog.built 119 [(0, .pointer (some ⟨g, 0, none⟩)), (2, fnV k), (3, fnV k')] = some [.pointer (some ⟨g, 0, none⟩), .bool false, fnV k, fnV k'].toArray := by kernel_rfl
theorem bu136 (g gh gk n c n' c' : Nat) : Tryz.prog.built 113 [(0, .pointer (some ⟨g, 0, none⟩)), (2, .slice (some ⟨gh, 0, none⟩) n c), (3, .slice (some ⟨gk, 0, none⟩) n' c')] = some [.pointer (some ⟨g, 0, none⟩), .bool false, .slice (some ⟨gh, 0, none⟩) n c, .slice (some ⟨gk, 0, none⟩) n' c'].toArray := by kernel_rfl
theorem one_ptr {a : Option Addr} : ∀ u ∈ [Value.pointer a], u.oneCell' = true := fun u hu => by
  rw [List.mem_singleton.1 hu]
  rfl
@[reducible] def hdS (H : Hd) (gS : Nat) : Hd := { H with gS := gS }
set_option maxHeartbeats 1000000 in
theorem sects_calls {X : Cx} {H : Hd} {c : List Value} {E : Mem} (hnd : nth c 8 = some (.bool H.nd)) : ∀ w, Cl X ((H.gL, c, .c 92) :: E) w → Calls Tryz.prog 101 #[pL H] w fun e w' => ∃ (gS : Nat) (S : Sec), e = .returned (.pointer (some ⟨gS, 0, none⟩)) ∧ Cl X (secM (hdS H gS) S ++ (H.gL, c, .c 92) :: E) w' ∧ SecMay X (hdS H gS) S ∧ S.dv = !H.nd ∧ S.all = false ∧ S.s1 = false ∧ S.s2 = false ∧ S.kc = (bif S.dv then 2 else 1) := by
  intro w hw
  refine enterC 34 hw Tryz.func101 rfl rfl (vs := [pL H]) rfl ?_
  conv => arg 2; arg 2; whnf
  rcases (Bool.eq_false_or_eq_true H.nd).symm with hv | hv
  · rw [hv] at hnd ⊢
    repeat' (first | refine cseq ?_ | refine rtext ?_ | refine ctrue rfl ?_ | refine cret ?_ | refine jnil ?_ | (first | refine jmv rfl rfl rfl ?_ | refine jy (ynil rfl) rfl rfl ?_ | (show Jo _ (.fieldAddr _ _ _); refine jy (yfield rfl (by first | exact fb110_7 | exact fb83_1) rfl) rfl rfl ?_) | (show Jo _ (.load _ _); refine jy (yload (i := 3) rfl rfl (by exact hnd) one4) rfl rfl ?_) | refine jas_ rfl rfl rfl ?_ | refine jy (ynot rfl rfl) rfl rfl ?_ | (show Jo _ (.call _); first | (show Jo (some 30) (.call ⟨.builtin .len, _, _⟩); refine jy (ylenl rfl und133) rfl rfl ?_) | (show Jo (some 13) (.call ⟨.builtin .append, _, _⟩); refine jappendIn (i := 2) (size := 1) (n := 0) (k := 1) (cap := 2) (c := [.pointer none, .pointer none]) (news := [.pointer (some ⟨g1, 0, none⟩)]) rfl rfl rfl (src_blk (i := 0) 0 rfl (add_zero _) (fun j u hj => by rw [Nat.zero_add]; exact hj)) rfl one_ptr (.inr hgh) gr133 (by omega) (by simp) (c' := [.pointer (some ⟨g1, 0, none⟩), .pointer none]) rfl rfl ?_) | (show Jo (some 26) (.call ⟨.builtin .append, _, _⟩); refine jappendIn (i := 4) (size := 1) (n := 1) (k := 1) (cap := 2) (c := [.pointer (some ⟨g1, 0, none⟩), .pointer none]) (news := [.pointer (some ⟨g2, 0, none⟩)]) rfl rfl rfl (src_blk (i := 0) 0 rfl (add_zero _) (fun j u hj => by rw [Nat.zero_add]; exact hj)) rfl one_ptr (.inr hgh) gr133 (by omega) (by simp) (c' := [.pointer (some ⟨g1, 0, none⟩), .pointer (some ⟨g2, 0, none⟩)]) rfl rfl ?_)) | (show Jo (some 6) (.makeSlice _ _ _); refine jmakeC (l := 0) (n := 2) [.pointer none] rfl rfl rfl rfl (by omega) gr133 ze137 rfl (by omega) (by omega) rfl (fun gh hgh => ?_)) | (show Jo (some 8) (.build _ _); refine jy (ybuild rfl (bu142 H.gL 112 115)) rfl rfl ?_) | (show Jo (some 21) (.build _ _); refine jy (ybuild rfl (bu142 H.gL 120 121)) rfl rfl ?_) | (show Jo (some 9) (.box _ _); refine jbox rfl rfl rfl (fun g1 hg1 => ?_)) | (show Jo (some 22) (.box _ _); refine jbox rfl rfl rfl (fun g2 hg2 => ?_)) | (show Jo (some 33) (.box _ _); refine jbox rfl rfl rfl (fun gS hgS => ?_)) | (show Jo (some 12) (.buildSlice _ _ _); refine jlitN (n := 1) (vs := [.pointer (some ⟨g1, 0, none⟩)]) rfl rfl rfl rfl gr133 rfl rfl rfl rfl (fun gl1 hT => ?_)) | (show Jo (some 25) (.buildSlice _ _ _); refine jlitN (n := 1) (vs := [.pointer (some ⟨g2, 0, none⟩)]) rfl rfl rfl rfl gr133 rfl rfl rfl rfl (fun gl2 hT => ?_)) | (show Jo (some 31) (.makeSlice _ _ _); refine jmakeC (l := 2) (n := 2) [.int .i64 0] rfl rfl rfl rfl (by omega) gr134 ze3 rfl (by omega) (by omega) rfl (fun gk hgk => ?_)) | (show Jo (some 32) (.build _ _); refine jy (ybuild rfl (bu136 H.gL gh gk 2 2 2 2)) rfl rfl ?_)))
    refine ret1 rfl rfl rfl (fun w' hw' => ⟨gS, ⟨gh, g1, g2, gk, 2, 2, [.int .i64 0, .int .i64 0], true, false, false, false⟩, rfl, ?_, ⟨Cx.may_up hw (.inr hgS), Cx.may_up hw (.inr hg1), Cx.may_up hw (.inr hg2), Cx.may_up hw (.inr hgk), rfl, (show _ ≤ maxLen by simp only [maxLen]; omega)⟩, rfl, rfl, rfl, rfl, rfl⟩)
    exact (hw.up hw').pickA (A := [_, _, _, _, _, _, _]) (B := [_, _, _, _, _]) [0, 6, 5, 1, 3] (by decide) rfl
  · rw [hv] at hnd ⊢
    repeat' (first | refine cseq ?_ | refine rtext ?_ | refine cfalse rfl ?_ | refine cskip ?_ | refine cret ?_ | refine jnil ?_ | (first | refine jmv rfl rfl rfl ?_ | refine jy (ynil rfl) rfl rfl ?_ | (show Jo _ (.fieldAddr _ _ _); refine jy (yfield rfl (by first | exact fb110_7 | exact fb83_1) rfl) rfl rfl ?_) | (show Jo _ (.load _ _); refine jy (yload (i := 3) rfl rfl (by exact hnd) one4) rfl rfl ?_) | refine jas_ rfl rfl rfl ?_ | refine jy (ynot rfl rfl) rfl rfl ?_ | (show Jo _ (.call _); first | (show Jo (some 30) (.call ⟨.builtin .len, _, _⟩); refine jy (ylenl rfl und133) rfl rfl ?_) | (show Jo (some 13) (.call ⟨.builtin .append, _, _⟩); refine jappendIn (i := 2) (size := 1) (n := 0) (k := 1) (cap := 2) (c := [.pointer none, .pointer none]) (news := [.pointer (some ⟨g1, 0, none⟩)]) rfl rfl rfl (src_blk (i := 0) 0 rfl (add_zero _) (fun j u hj => by rw [Nat.zero_add]; exact hj)) rfl one_ptr (.inr hgh) gr133 (by omega) (by simp) (c' := [.pointer (some ⟨g1, 0, none⟩), .pointer none]) rfl rfl ?_)) | (show Jo (some 6) (.makeSlice _ _ _); refine jmakeC (l := 0) (n := 2) [.pointer none] rfl rfl rfl rfl (by omega) gr133 ze137 rfl (by omega) (by omega) rfl (fun gh hgh => ?_)) | (show Jo (some 8) (.build _ _); refine jy (ybuild rfl (bu142 H.gL 112 115)) rfl rfl ?_) | (show Jo (some 9) (.box _ _); refine jbox rfl rfl rfl (fun g1 hg1 => ?_)) | (show Jo (some 33) (.box _ _); refine jbox rfl rfl rfl (fun gS hgS => ?_)) | (show Jo (some 12) (.buildSlice _ _ _); refine jlitN (n := 1) (vs := [.pointer (some ⟨g1, 0, none⟩)]) rfl rfl rfl rfl gr133 rfl rfl rfl rfl (fun gl1 hT => ?_)) | (show Jo (some 31) (.makeSlice _ _ _); refine jmakeC (l := 1) (n := 1) [.int .i64 0] rfl rfl rfl rfl (by omega) gr134 ze3 rfl (by omega) (by omega) rfl (fun gk hgk => ?_)) | (show Jo (some 32) (.build _ _); refine jy (ybuild rfl (bu136 H.gL gh gk 1 2 1 1)) rfl rfl ?_)))
    refine ret1 rfl rfl rfl (fun w' hw' => ⟨gS, ⟨gh, g1, g1, gk, 1, 1, [.int .i64 0], false, false, false, false⟩, rfl, ?_, ⟨Cx.may_up hw (.inr hgS), Cx.may_up hw (.inr hg1), Cx.may_up hw (.inr hg1), Cx.may_up hw (.inr hgk), rfl, (show _ ≤ maxLen by simp only [maxLen]; omega)⟩, rfl, rfl, rfl, rfl, rfl⟩)
    exact (hw.up hw').pickA (A := [_, _, _, _, _]) (B := [_, _, _, _]) [0, 4, 3, 1] (by decide) rfl
theorem bo105 : bodyB Tryz.prog 85 = true := by kernel_rfl
theorem agg83 : aggB Tryz.prog 73 2 = true := by kernel_rfl
theorem gr76 : growB Tryz.prog 66 78 7 72 = true := by kernel_rfl
def zItm : List Value := [.int .i64 0, .nilIface, .int .i64 0, .int .i64 0, .slice none 0 0, .int .u8 0, .bool false]
theorem ze88 : ((Tryz.prog.info? 78).bind (·.zero)).map (·.cells) = some zItm.toArray := by kernel_rfl
theorem bu108 (g : Nat) : Tryz.prog.built 90 [(0, .int .i64 8), (1, .int .i64 9), (7, .map (some g))] = some [.int .i64 8, .int .i64 9, .bool false, .string ⟨#[]⟩, .int .i64 0, .int .i64 0, .int .i64 0, .map (some g)].toArray := by kernel_rfl
theorem bu110 (gI n c k gd gM gR : Nat) (a b : Bool) (m : Nat) : Tryz.prog.built 92 [(0, .slice (some ⟨gI, 0, none⟩) n c), (1, fnV k), (8, .slice (some ⟨gd, 0, none⟩) 11 11), (7, .agg #[.bool a, .bool b]), (10, .agg #[.int .i64 8, .int .i64 9, .bool false, .string ⟨#[]⟩, .int .i64 0, .int .i64 0, .int .i64 0, .map (some gM)]), (11, .slice (some ⟨gR, 0, none⟩) 0 5)] = some [.slice (some ⟨gI, 0, none⟩) n c, fnV k, .nilFunc, .int .i64 0, .int .i64 0, .int .i64 0, .pointer none, .bool a, .bool b, .slice (some ⟨gd, 0, none⟩) 11 11, .bool false, .int .i64 8, .int .i64 9, .bool false, .string ⟨#[]⟩, .int .i64 0, .int .i64 0, .int .i64 0, .map (some gM), .slice (some ⟨gR, 0, none⟩) 0 5, .nilIface].toArray := by kernel_rfl
theorem si105 : (Tryz.prog.info? 87).map (·.size) = some 1 := by kernel_rfl
@[reducible] def hdN (H0 : Hd) (gL gM gS : Nat) : Hd := { H0 with gL := gL, gM := gM, gS := gS }
def NewR (X : Cx) (H0 : Hd) (e : Ending) (w' : World) : Prop := ∃ (H : Hd) (q : RS) (S : Sec) (gd : Nat), e = .returned (pL H) ∧ Cl X (cM H lx0 .nilFunc 0 gd q (secM H S) []) w' ∧ iB H = iB H0 ∧ H.s = H0.s ∧ H.st0 = H0.st0 ∧ H.nd = H0.nd ∧ Ok X H ∧ QOk X q ∧ q.n = 0 ∧ q.ics = [] ∧ SecMay X H S ∧ SecOk H.s lx0 S ∧ S.dv = !H.nd ∧ S.all = false ∧ S.s1 = false ∧ S.s2 = false
set_option maxHeartbeats 4000000 in
theorem new_calls {X : Cx} {H0 : Hd} (k0 : Nat) (hst : H0.st0 = fnV k0) (hW : ∃ W, Bs W X ∧ Tab W) (hsz : H0.s.length ≤ H0.cap) (hbig : H0.s.length ≤ 35184372088832) {E : Mem} : ∀ w, Cl X (iB H0 :: E) w → Calls Tryz.prog 85 #[.slice (some ⟨H0.gI, 0, none⟩) H0.s.length H0.cap, fnV k0, .agg #[.bool H0.nf, .bool H0.nd]] w (NewR X H0) := by
  intro w hw
  replace hw : Cl X [iB H0] w := hw.less (List.Sublist.cons_cons _ (List.nil_sublist _))
  refine enterC 23 hw Tryz.func85 rfl rfl (vs := [.slice (some ⟨H0.gI, 0, none⟩) H0.s.length H0.cap, fnV k0, .agg #[.bool H0.nf, .bool H0.nd]]) rfl ?_
  have hsec : ∀ (gL gM : Nat) (c : List Value) (R : Mem), nth c 8 = some (.bool H0.nd) → ∀ w', Cl (X.sub 23 w) ((gL, c, .c 92) :: R) w' → Calls Tryz.prog 101 #[.pointer (some ⟨gL, 0, none⟩)] w' fun e w'' => ∃ i : Nat × Sec, e = .returned (.pointer (some ⟨i.1, 0, none⟩)) ∧ Cl (X.sub 23 w) ((gL, c, .c 92) :: (secM (hdN H0 gL gM i.1) i.2 ++ R)) w'' ∧ (SecMay (X.sub 23 w) (hdN H0 gL gM i.1) i.2 ∧ i.2.dv = !H0.nd ∧ i.2.all = false ∧ i.2.s1 = false ∧ i.2.s2 = false ∧ i.2.kc = (bif i.2.dv then 2 else 1)) := fun gL gM c R hc w' hw' =>
    (sects_calls (H := hdN H0 gL gM 0) hc w' hw').mono fun e w'' ⟨gS, S, h1, h2, h3⟩ => ⟨(gS, S), h1, h2.perm List.perm_middle, h3⟩
  conv => arg 2; arg 2; whnf
  repeat' (first | first | (show PJ _ (Code.wp _ _ _) _ _; first | refine cseq ?_ | refine rtext ?_ | refine cret ?_ | (show PJ _ (Code.wp _ (Code.region 1 _ true) _) _ _; refine rany [(gC, [.bool H0.nf, .bool H0.nd], .c 73), iB H0] mixed ?_)) | refine jnil ?_ | (first | refine jmv rfl rfl rfl ?_ | refine jy (ynil rfl) rfl rfl ?_ | (show Jo _ (.fieldAddr _ _ _); refine jy (yfield rfl fb110_6 rfl) rfl rfl ?_) | refine jas_ rfl rfl rfl ?_ | (show Jo _ (.store _ _ _); refine jstore (i := 0) rfl rfl rfl rfl rfl si105 (.inr hgL) ?_) | (show Jo _ (.call _); first | (show Jo (some 10) (.call _); refine jcall (ι := Nat) _ bo122 rfl rfl rfl (fun w' hw' => fresh122 _ _ w' hw') (fun gd hgd => ?_)) | (show Jo (some 19) (.call _); refine jcall (ι := Nat × Sec) (vs := [.pointer (some ⟨gL, 0, none⟩)]) _ bo123 rfl rfl rfl (hsec gL gM _ _ rfl) (fun gs hgs => ?_))) | (show Jo (some 5) (.box _ _); refine jbox rfl rfl rfl (fun gC hgC => ?_)) | (show Jo (some 16) (.box _ _); refine jbox rfl rfl rfl (fun gL hgL => ?_)) | (show Jo (some 12) (.makeMap _ _); refine jmakeMap rfl (fun gM hgM => ?_)) | (show Jo (some 13) (.makeSlice _ _ _); refine jmakeC (l := 0) (n := 5) zItm rfl rfl rfl rfl (by omega) gr76 ze88 rfl (by omega) (by omega) rfl (fun gR hgR => ?_))) | first | (show JT _ _ _ _ _ _ [] _ _; refine jtnil ?_) | (first | (show JTo _ (.move _); refine jty (ymove rfl) rfl rfl ?_) | (show JTo _ (.load _ _); refine jty (yloads (i := 0) rfl rfl agg83) rfl rfl ?_) | (show JTo _ (.assign _); refine jty (yassign rfl) rfl rfl ?_) | (show JTo (some 14) (.build _ _); refine jty (ybuild rfl (bu108 gM)) rfl rfl ?_) | (show JTo (some 15) (.build _ _); refine jty (ybuild rfl (bu110 H0.gI H0.s.length H0.cap k0 gd gM gR H0.nf H0.nd 0)) rfl rfl ?_)) | first | (show PJ _ (WKeep _ _ _) _ _; refine jas (fun _ h => h.less (by repeat (first | exact List.Sublist.refl _ | refine List.Sublist.cons _ ?_))) ?_) | (show PJ _ (WIf _ _ _) _ _; refine jaw ?_) | (show PJ _ (WAny _ _ _ _ _ _ _) _ _; first | refine jaq (g' := 7) (D := []) [0, 1, 3] rfl (fun _ h => h.less (by repeat ((exact List.Sublist.refl _)))) (by kernel_rfl) (by kernel_rfl) rfl (fun _ d _ _ _ h => by cases d <;> exact h) rfl ?_ | refine ja3 (g' := 6) (D := [0, 1, 3]) 2 4 5 rfl rfl rfl rfl (by kernel_rfl) rfl rfl rfl ?_ ?_ ?_ | refine ja2 (g' := 5) (D := [0, 1, 3, 2]) 4 5 rfl rfl rfl (by kernel_rfl) rfl rfl ?_ ?_ | refine jaq (g' := 4) (D := [0, 1, 3, 2, 4]) [6] rfl (fun _ h => h.less (by repeat (first | exact List.Sublist.refl _ | refine List.Sublist.cons _ ?_))) (by kernel_rfl) (by kernel_rfl) rfl (fun _ d _ _ _ h => by cases d <;> exact h) rfl ?_ | refine ja1 (g' := 3) (D := [0, 1, 3, 2, 4, 6]) 5 rfl rfl (by kernel_rfl) rfl ?_ | refine jaq (g' := 2) (D := [0, 1, 3, 2, 4, 6, 5]) [7] rfl (fun _ h => h.less (by repeat (first | exact List.Sublist.refl _ | refine List.Sublist.cons _ ?_))) (by kernel_rfl) (by kernel_rfl) rfl (fun _ d _ _ _ h => by cases d <;> exact h) rfl ?_ | refine ja1 (g' := 1) (D := [0, 1, 3, 2, 4, 6, 5, 7]) 8 rfl rfl (by kernel_rfl) rfl ?_ | refine jaq (g' := 0) (D := [0, 1, 3, 2, 4, 6, 5, 7, 8]) [9] rfl (fun _ h => h.less (by repeat (first | exact List.Sublist.refl _ | refine List.Sublist.cons _ ?_))) (by kernel_rfl) (by kernel_rfl) rfl (fun _ d _ _ _ h => by cases d <;> exact h) rfl ?_ | refine ja1 (g' := 4) (D := [0, 1, 3, 2, 5]) 4 rfl rfl (by kernel_rfl) rfl ?_ | refine jaq (g' := 2) (D := [0, 1, 3, 2, 5, 4]) [6, 7] rfl (fun _ h => h.less (by repeat (first | exact List.Sublist.refl _ | refine List.Sublist.cons _ ?_))) (by kernel_rfl) (by kernel_rfl) rfl (fun _ d _ _ _ h => by cases d <;> exact h) rfl ?_ | refine ja1 (g' := 1) (D := [0, 1, 3, 2, 5, 4, 6, 7]) 8 rfl rfl (by kernel_rfl) rfl ?_ | refine jaq (g' := 0) (D := [0, 1, 3, 2, 5, 4, 6, 7, 8]) [9] rfl (fun _ h => h.less (by repeat (first | exact List.Sublist.refl _ | refine List.Sublist.cons _ ?_))) (by kernel_rfl) (by kernel_rfl) rfl (fun _ d _ _ _ h => by cases d <;> exact h) rfl ?_ | refine jaq (g' := 5) (D := [0, 1, 3, 4]) [6] rfl (fun _ h => h.less (by repeat (first | exact List.Sublist.refl _ | refine List.Sublist.cons _ ?_))) (by kernel_rfl) (by kernel_rfl) rfl (fun _ d _ _ _ h => by cases d <;> exact h) rfl ?_ | refine ja2 (g' := 4) (D := [0, 1, 3, 4, 6]) 2 5 rfl rfl rfl (by kernel_rfl) rfl rfl ?_ ?_ | refine ja1 (g' := 3) (D := [0, 1, 3, 4, 6, 2]) 5 rfl rfl (by kernel_rfl) rfl ?_ | refine jaq (g' := 2) (D := [0, 1, 3, 4, 6, 2, 5]) [7] rfl (fun _ h => h.less (by repeat (first | exact List.Sublist.refl _ | refine List.Sublist.cons _ ?_))) (by kernel_rfl) (by kernel_rfl) rfl (fun _ d _ _ _ h => by cases d <;> exact h) rfl ?_ | refine ja1 (g' := 1) (D := [0, 1, 3, 4, 6, 2, 5, 7]) 8 rfl rfl (by kernel_rfl) rfl ?_ | refine jaq (g' := 0) (D := [0, 1, 3, 4, 6, 2, 5, 7, 8]) [9] rfl (fun _ h => h.less (by repeat (first | exact List.Sublist.refl _ | refine List.Sublist.cons _ ?_))) (by kernel_rfl) (by kernel_rfl) rfl (fun _ d _ _ _ h => by cases d <;> exact h) rfl ?_ | refine ja1 (g' := 3) (D := [0, 1, 3, 4, 6, 5]) 2 rfl rfl (by kernel_rfl) rfl ?_ | refine jaq (g' := 2) (D := [0, 1, 3, 4, 6, 5, 2]) [7] rfl (fun _ h => h.less (by repeat (first | exact List.Sublist.refl _ | refine List.Sublist.cons _ ?_))) (by kernel_rfl) (by kernel_rfl) rfl (fun _ d _ _ _ h => by cases d <;> exact h) rfl ?_ | refine ja1 (g' := 1) (D := [0, 1, 3, 4, 6, 5, 2, 7]) 8 rfl rfl (by kernel_rfl) rfl ?_ | refine jaq (g' := 0) (D := [0, 1, 3, 4, 6, 5, 2, 7, 8]) [9] rfl (fun _ h => h.less (by repeat (first | exact List.Sublist.refl _ | refine List.Sublist.cons _ ?_))) (by kernel_rfl) (by kernel_rfl) rfl (fun _ d _ _ _ h => by cases d <;> exact h) rfl ?_ | refine ja2 (g' := 5) (D := [0, 1, 3, 5]) 2 4 rfl rfl rfl (by kernel_rfl) rfl rfl ?_ ?_ | refine ja1 (g' := 4) (D := [0, 1, 3, 5, 2]) 4 rfl rfl (by kernel_rfl) rfl ?_ | refine jaq (g' := 2) (D := [0, 1, 3, 5, 2, 4]) [6, 7] rfl (fun _ h => h.less (by repeat (first | exact List.Sublist.refl _ | refine List.Sublist.cons _ ?_))) (by kernel_rfl) (by kernel_rfl) rfl (fun _ d _ _ _ h => by cases d <;> exact h) rfl ?_ | refine ja1 (g' := 1) (D := [0, 1, 3, 5, 2, 4, 6, 7]) 8 rfl rfl (by kernel_rfl) rfl ?_ | refine jaq (g' := 0) (D := [0, 1, 3, 5, 2, 4, 6, 7, 8]) [9] rfl (fun _ h => h.less (by repeat (first | exact List.Sublist.refl _ | refine List.Sublist.cons _ ?_))) (by kernel_rfl) (by kernel_rfl) rfl (fun _ d _ _ _ h => by cases d <;> exact h) rfl ?_ | refine jaq (g' := 4) (D := [0, 1, 3, 5, 4]) [6] rfl (fun _ h => h.less (by repeat (first | exact List.Sublist.refl _ | refine List.Sublist.cons _ ?_))) (by kernel_rfl) (by kernel_rfl) rfl (fun _ d _ _ _ h => by cases d <;> exact h) rfl ?_ | refine ja1 (g' := 3) (D := [0, 1, 3, 5, 4, 6]) 2 rfl rfl (by kernel_rfl) rfl ?_ | refine jaq (g' := 2) (D := [0, 1, 3, 5, 4, 6, 2]) [7] rfl (fun _ h => h.less (by repeat (first | exact List.Sublist.refl _ | refine List.Sublist.cons _ ?_))) (by kernel_rfl) (by kernel_rfl) rfl (fun _ d _ _ _ h => by cases d <;> exact h) rfl ?_ | refine ja1 (g' := 1) (D := [0, 1, 3, 5, 4, 6, 2, 7]) 8 rfl rfl (by kernel_rfl) rfl ?_ | refine jaq (g' := 0) (D := [0, 1, 3, 5, 4, 6, 2, 7, 8]) [9] rfl (fun _ h => h.less (by repeat (first | exact List.Sublist.refl _ | refine List.Sublist.cons _ ?_))) (by kernel_rfl) (by kernel_rfl) rfl (fun _ d _ _ _ h => by cases d <;> exact h) rfl ?_ | refine jadone rfl (by kernel_rfl) ?_))
  all_goals
    obtain ⟨gS, S⟩ := gs
    obtain ⟨hs1, hs2, hs3, hs4, hs5, hs6⟩ := hgs
    refine ret1 rfl rfl rfl (fun w' hw' => ⟨hdN H0 gL gM gS, ⟨gR, 0, 5, [], (List.replicate 5 zItm).flatten⟩, S, gd, rfl, ?_, rfl, rfl, rfl, rfl, ⟨hW, hsz, hbig, Cx.may_up hw (.inr hgL), Cx.may_up hw (.inr hgM)⟩, ⟨⟨Nat.zero_le _, rfl, Nat.zero_le _, (show 5 ≤ maxLen by simp only [maxLen]; omega), rfl⟩, Cx.may_up hw (.inr hgR)⟩, rfl, rfl, ⟨Cx.may_up hw hs1.s, Cx.may_up hw hs1.m1, Cx.may_up hw hs1.m2, Cx.may_up hw hs1.my, hs1.kl, hs1.kx⟩, ⟨(fun h => by rw [hs3] at h; cases h), (fun h => by rw [hs4] at h; cases h), (fun _ h => by rw [hs5] at h; cases h), hs6, hs1.kl⟩, hs2, hs3, hs4, hs5⟩)
    have h0 := (hw.up hw').perm (List.Perm.cons _ List.perm_append_comm)
    have e1 : lB (hdN H0 gL gM gS) (lsOf lx0 .nilFunc 0 (fV gd (divr false)) (.slice (some ⟨gR, 0, none⟩) 0 5)) = (gL, [.slice (some ⟨H0.gI, 0, none⟩) H0.s.length H0.cap, fnV k0, .nilFunc, .int .i64 0, .int .i64 0, .int .i64 0, .pointer (some ⟨gS, 0, none⟩), .bool H0.nf, .bool H0.nd, fV gd (divr false), .bool false, .int .i64 8, .int .i64 9, .bool false, .string ⟨#[]⟩, .int .i64 0, .int .i64 0, .int .i64 0, .map (some gM), .slice (some ⟨gR, 0, none⟩) 0 5, .nilIface], .c 92) := by
      rw [← hst]
      rfl
    show Cl X ([lB (hdN H0 gL gM gS) (lsOf lx0 .nilFunc 0 (fV gd (divr false)) (.slice (some ⟨gR, 0, none⟩) 0 5)), _, _, _, _] ++ (secM (hdN H0 gL gM gS) S ++ [])) w'
    rw [List.append_nil, e1]
    first | exact (h0.pickA (A := [_, _, _, _, _, _]) (B := [_, _, _, _, _]) [0, 5, 1, 2, 3] (by decide) rfl) | exact (h0.pickA (A := [_, _, _, _, _, _]) (B := [_, _, _, _, _]) [0, 5, 1, 3, 2] (by decide) rfl) | exact (h0.pickA (A := [_, _, _, _, _, _]) (B := [_, _, _, _, _]) [0, 5, 2, 1, 3] (by decide) rfl) | exact (h0.pickA (A := [_, _, _, _, _, _]) (B := [_, _, _, _, _]) [0, 5, 2, 3, 1] (by decide) rfl) | exact (h0.pickA (A := [_, _, _, _, _, _]) (B := [_, _, _, _, _]) [0, 5, 3, 1, 2] (by decide) rfl) | exact (h0.pickA (A := [_, _, _, _, _, _]) (B := [_, _, _, _, _]) [0, 5, 3, 2, 1] (by decide) rfl)
section
variable {X : Cx} {P : Program} {f : Fr} {m : Mem} {ty : TypeId} {pos : String} {af : Array Edge} {gd : Option (Nat × Bool)} {d : Option Tmp}
def ifB (P : Program) (t : TypeId) : Bool := match P.underlying t with
  | some (.interface _) => true
  | _ => false
def nilI : Value → Option Bool
  | .nilIface => some true
  | .iface _ _ => some false
  | _ => none
theorem run_eqI {t : TypeId} {a : Value} {b : Bool} (ht : ifB P t = true) (ha : nilI a = some b) (d : Nat) (w : World) : (Op.equalIn (d + 1) t a .nilIface).run P w = .ok b w := by
  unfold ifB at ht
  split at ht
  · rename_i hu
    unfold nilI at ha
    split at ha
    · cases ha; simp [Op.equalIn, run_underlying hu]
    · cases ha; simp [Op.equalIn, run_underlying hu]
    · cases ha
  · cases ht
theorem yin {x : Operand} {a : Value} {b : Bool} {t t' : TypeId} (hx : evF f x = some a) (ht : ifB P t = true) (ha : nilI a = some b) :
    Yl X P f m ⟨d, .binOp .neq t x (.const .nilIface) t', ty, pos, af, gd⟩ (.bool (!b)) := .of fun w1 w s => by
  have h1 := run_eqI (P := P) ht ha 9999 w
  have hy : w1.eval (.const .nilIface) = .nilIface := rfl
  cases a <;> (cases ha) <;> simp [execOp, s.agr.eval hx, hy, binOp, eqGuard, Op.equal, Op.maxDepth, h1]
end
theorem if79 : ifB Tryz.prog 69 = true := by kernel_rfl
theorem bo69 : bodyB Tryz.prog 55 = true := by kernel_rfl
theorem bo55 : bodyB Tryz.prog 47 = true := by kernel_rfl
theorem fb83_0 : fieldB Tryz.prog 73 0 = some 0 := by kernel_rfl
theorem one79 : oneB Tryz.prog 69 = true := by kernel_rfl
structure PsdOk (X : Cx) (H0 : Hd) (l : List Itm) (p : Hd × RI) : Prop where
  ib : iB p.1 = iB H0
  hs : p.1.s = H0.s
  it : p.2.x.items = l
  st : StOk X p.1 p.2.x p.2.q p.2.G
def psM (p : Hd × RI) : Mem := cM p.1 p.2.x (stV p.2.u) p.2.W p.2.gd p.2.q (secM p.1 p.2.S) p.2.G
set_option maxHeartbeats 1000000 in
theorem parse69_calls {X : Cx} {H0 : Hd} (st0 : Lex0.St) (h0 : st0 = if H0.nf then .main else .intro) (hst : H0.st0 = fnV (stF st0)) (hW : ∃ W, Bs W X ∧ Tab W) (hsz : H0.s.length ≤ H0.cap) (hbig : H0.s.length ≤ 4294967296) {E : Mem} : ∀ w, Cl X (iB H0 :: E) w →
    Calls Tryz.prog 55 #[.slice (some ⟨H0.gI, 0, none⟩) H0.s.length H0.cap, .agg #[.bool H0.nf, .bool H0.nd], fnV (stF st0)] w fun e w' => ∃ p : Hd × RI, e = .returned (.tuple #[pL p.1, .nilIface]) ∧ Cl X (psM p) w' ∧ PsdOk X H0 (parse envT H0.s (!H0.nf) (!H0.nd)) p := by
  intro w hw
  refine enterC 16 hw Tryz.func55 rfl rfl (vs := [.slice (some ⟨H0.gI, 0, none⟩) H0.s.length H0.cap, .agg #[.bool H0.nf, .bool H0.nd], fnV (stF st0)]) rfl ?_
  have hWs : ∃ W, Bs W (X.sub 16 w) ∧ Tab W := by
    obtain ⟨W, h1, h2⟩ := hW
    exact ⟨W, h1.sub hw 16, h2⟩
  have hnew : ∀ (R : Nat × List Value × Bk) (w' : World), Cl (X.sub 16 w) (R :: iB H0 :: E) w' → Calls Tryz.prog 85 #[.slice (some ⟨H0.gI, 0, none⟩) H0.s.length H0.cap, fnV (stF st0), .agg #[.bool H0.nf, .bool H0.nd]] w' fun e w'' => ∃ n : (Hd × RS) × (Sec × Nat), e = .returned (pL n.1.1) ∧ Cl (X.sub 16 w) (cM n.1.1 lx0 .nilFunc 0 n.2.2 n.1.2 (secM n.1.1 n.2.1) []) w'' ∧ (iB n.1.1 = iB H0 ∧ n.1.1.s = H0.s ∧ n.1.1.st0 = H0.st0 ∧ n.1.1.nd = H0.nd ∧ Ok (X.sub 16 w) n.1.1 ∧ QOk (X.sub 16 w) n.1.2 ∧ n.1.2.n = 0 ∧ n.1.2.ics = [] ∧ SecMay (X.sub 16 w) n.1.1 n.2.1 ∧ SecOk n.1.1.s lx0 n.2.1 ∧ n.2.1.dv = !n.1.1.nd ∧ n.2.1.all = false ∧ n.2.1.s1 = false ∧ n.2.1.s2 = false) := fun R w' hw' =>
    (new_calls (stF st0) hst hWs hsz (by omega) w' (hw'.perm (List.Perm.swap _ _ _))).mono fun e w'' ⟨H, q, S, gd, h1, h2, h3⟩ => ⟨((H, q), (S, gd)), h1, h2, h3⟩
  have hrun : ∀ (n : (Hd × RS) × (Sec × Nat)), (iB n.1.1 = iB H0 ∧ n.1.1.s = H0.s ∧ n.1.1.st0 = H0.st0 ∧ n.1.1.nd = H0.nd ∧ Ok (X.sub 16 w) n.1.1 ∧ QOk (X.sub 16 w) n.1.2 ∧ n.1.2.n = 0 ∧ n.1.2.ics = [] ∧ SecMay (X.sub 16 w) n.1.1 n.2.1 ∧ SecOk n.1.1.s lx0 n.2.1 ∧ n.2.1.dv = !n.1.1.nd ∧ n.2.1.all = false ∧ n.2.1.s1 = false ∧ n.2.1.s2 = false) → ∀ w', Cl (X.sub 16 w) (cM n.1.1 lx0 .nilFunc 0 n.2.2 n.1.2 (secM n.1.1 n.2.1) []) w' → Calls Tryz.prog 86 #[pL n.1.1] w' fun e w'' => ∃ i : RI, e = .returned (pL n.1.1) ∧ Cl (X.sub 16 w) (psM (n.1.1, i)) w'' ∧ (StOk (X.sub 16 w) n.1.1 i.x i.q i.G ∧ i.x.items = parse envT H0.s (!H0.nf) (!H0.nd)) := by
    rintro ⟨⟨H, q⟩, S, gd⟩ ⟨a1, a2, a3, a4, a5, a6, a7, a8, a9, a10, a11, a12, a13, a14⟩ w' hw'
    dsimp only at *
    have hp := parsesN' env_al H.s (!H0.nf) (!H0.nd)
    have he : (if (!H0.nf) = true then Lex0.St.intro else .main) = st0 := by rw [h0]; cases H0.nf <;> rfl
    rw [he] at hp
    have hg : Lex0.Good envT H.s st0 lx0 := by
      have := good0 envT H.s (!H0.nf)
      rw [he] at this
      exact this
    have hj : jo (some st0) = false := by rw [h0]; cases H0.nf <;> rfl
    have hsl : H.s.length ≤ 4294967296 := by rw [a2]; exact hbig
    have hdv : S.dv = !H0.nd := by rw [a11, a4]
    have hz : lx0.items.length = 0 := rfl
    refine (run_calls a5 hsl a9 (st0 := st0) (by rw [a3, hst]; rfl) hj .nilFunc gd (parse envT H.s (!H0.nf) (!H0.nd)) (4 * H.s.length + 3) hg ⟨a6, a7, by rw [a8]; exact ICS.nil, Nat.zero_le _, Nat.le_refl _⟩ ⟨a10, fun _ => ⟨a12, a13, a14⟩⟩ (by rw [hdv]; exact hp) (by omega) (by show 0 + _ ≤ _; omega) (by show 0 + _ ≤ _; omega) (Nat.zero_le _) w' hw').mono fun e w'' ⟨i, h1, h2, h3, h4, h5⟩ => ⟨i, h1, h2, h3, by rw [h4, a2]⟩
  conv => arg 2; arg 2; whnf
  repeat' (first | first | refine cseq ?_ | refine rtext ?_ | refine cret ?_ | refine jnil ?_ | (first | refine jmv rfl rfl rfl ?_ | (show Jo _ (.load _ _); refine jy (yloads (i := 0) rfl rfl agg83) rfl rfl ?_) | refine jas_ rfl rfl rfl ?_ | (show Jo _ (.call _); first | (show Jo (some 12) (.call _); refine jcall (ι := (Hd × RS) × (Sec × Nat)) (vs := [.slice (some ⟨H0.gI, 0, none⟩) H0.s.length H0.cap, fnV (stF st0), .agg #[.bool H0.nf, .bool H0.nd]]) _ bo105 rfl rfl rfl (hnew _) (fun n hn => ?_)) | (show Jo (some 14) (.call _); refine jcall (ι := RI) (vs := [pL n.1.1]) _ bo106 rfl rfl rfl (hrun n hn) (fun i hi => ?_))) | (show Jo (some 4) (.box _ _); refine jbox rfl rfl rfl (fun gC hgC => ?_))))
  exact ret2 rfl rfl rfl rfl (fun w' hw' => ⟨(n.1.1, i), rfl, hw.up hw', ⟨hn.1, hn.2.1, hi.2, StOk.up hw hi.1⟩⟩)
set_option maxHeartbeats 1000000 in
theorem parse55_calls {X : Cx} {H1 : Hd} (hW : ∃ W, Bs W X ∧ Tab W) (hsz : H1.s.length ≤ H1.cap) (hbig : H1.s.length ≤ 4294967296) {E : Mem} : ∀ w, Cl X (iB H1 :: E) w →
    Calls Tryz.prog 47 #[.slice (some ⟨H1.gI, 0, none⟩) H1.s.length H1.cap, .agg #[.bool H1.nf, .bool H1.nd]] w fun e w' => ∃ p : Hd × RI, e = .returned (.tuple #[p.2.q.val, .nilIface]) ∧ Cl X (psM p) w' ∧ PsdOk X H1 (parse envT H1.s (!H1.nf) (!H1.nd)) p := by
  intro w hw
  refine enterC 29 hw Tryz.func47 rfl rfl (vs := [.slice (some ⟨H1.gI, 0, none⟩) H1.s.length H1.cap, .agg #[.bool H1.nf, .bool H1.nd]]) rfl ?_
  have hWs : ∃ W, Bs W (X.sub 29 w) ∧ Tab W := by
    obtain ⟨W, h1, h2⟩ := hW
    exact ⟨W, h1.sub hw 29, h2⟩
  obtain ⟨st0, h0⟩ : ∃ st0 : Lex0.St, st0 = if H1.nf then .main else .intro := ⟨_, rfl⟩
  obtain ⟨H0, hH⟩ : ∃ H0 : Hd, H0 = { H1 with st0 := fnV (stF st0) } := ⟨_, rfl⟩
  have hp69 : ∀ (R : Nat × List Value × Bk) (w' : World), Cl (X.sub 29 w) (R :: iB H1 :: E) w' → Calls Tryz.prog 55 #[.slice (some ⟨H1.gI, 0, none⟩) H1.s.length H1.cap, .agg #[.bool H1.nf, .bool H1.nd], fnV (stF st0)] w' fun e w'' => ∃ p : Hd × RI, e = .returned (.tuple #[pL p.1, .nilIface]) ∧ Cl (X.sub 29 w) (psM p) w'' ∧ PsdOk (X.sub 29 w) H0 (parse envT H1.s (!H1.nf) (!H1.nd)) p := fun R w' hw' => by
    subst hH
    exact parse69_calls (H0 := { H1 with st0 := fnV (stF st0) }) st0 h0 rfl hWs hsz hbig w' (hw'.perm (List.Perm.swap _ _ _))
  have hfin : ∀ {p : Hd × RI}, PsdOk (X.sub 29 w) H0 (parse envT H1.s (!H1.nf) (!H1.nd)) p → PsdOk X H1 (parse envT H1.s (!H1.nf) (!H1.nd)) p := fun ⟨h1, h2, h3, h4⟩ => ⟨by rw [h1, hH]; rfl, by rw [h2, hH], h3, StOk.up hw h4⟩
  conv => arg 2; arg 2; whnf
  rcases (Bool.eq_false_or_eq_true H1.nf).symm with hv | hv
  · have hs0 : st0 = .intro := by rw [h0, hv]; rfl
    subst hs0
    repeat' (first | refine cfalse (congrArg (fun b => some (Value.bool b)) hv) ?_ | first | (show PJ _ (Code.wp _ _ _) _ _; first | refine cseq ?_ | refine rtext ?_ | refine cfalse rfl ?_ | refine cskip ?_ | refine cret ?_ | refine rquiet mixed (by kernel_rfl) ?_) | refine jnil ?_ | (first | refine jmv rfl rfl rfl ?_ | refine jy (ynil rfl) rfl rfl ?_ | (show Jo _ (.fieldAddr _ _ _); refine jy (yfield rfl (by first | exact fb83_0 | exact fb110_11 | exact fb110_12) rfl) rfl rfl ?_) | (show Jo _ (.load _ _); first | refine jy (yload (i := 0) rfl rfl rfl one4) rfl rfl ?_ | refine jy (yloads (i := 0) rfl rfl agg83) rfl rfl ?_) | refine jas_ rfl rfl rfl ?_ | (show Jo _ (.binOp _ _ _ _ _); ((show Jo (some 19) (.binOp .neq _ _ _ _); refine jy (yin rfl if79 rfl) rfl rfl ?_))) | (show Jo _ (.call _); ((show Jo (some 15) (.call _); refine jcall (ι := Hd × RI) (vs := [.slice (some ⟨H1.gI, 0, none⟩) H1.s.length H1.cap, .agg #[.bool H1.nf, .bool H1.nd], fnV 53]) _ bo69 rfl rfl rfl (hp69 _) (fun p hp => ?_)))) | (show Jo _ (.extract _ _); refine jy (yextractL rfl rfl) rfl rfl ?_) | (show Jo (some 3) (.box _ _); refine jbox rfl rfl rfl (fun gC hgC => ?_))))
    exact ret2 rfl rfl rfl rfl (fun w' hw' => ⟨p, rfl, hw.up hw', hfin hp⟩)
  · have hs0 : st0 = .main := by rw [h0, hv]; rfl
    subst hs0
    repeat' (first | refine ctrue (congrArg (fun b => some (Value.bool b)) hv) ?_ | first | (show PJ _ (Code.wp _ _ _) _ _; first | refine cseq ?_ | refine rtext ?_ | refine cfalse rfl ?_ | refine cskip ?_ | refine cret ?_ | refine rquiet mixed (by kernel_rfl) ?_) | refine jnil ?_ | (first | refine jmv rfl rfl rfl ?_ | refine jy (ynil rfl) rfl rfl ?_ | (show Jo _ (.fieldAddr _ _ _); refine jy (yfield rfl (by first | exact fb83_0 | exact fb110_11 | exact fb110_12) rfl) rfl rfl ?_) | (show Jo _ (.load _ _); first | refine jy (yload (i := 0) rfl rfl rfl one4) rfl rfl ?_ | refine jy (yloads (i := 0) rfl rfl agg83) rfl rfl ?_) | refine jas_ rfl rfl rfl ?_ | (show Jo _ (.binOp _ _ _ _ _); ((show Jo (some 19) (.binOp .neq _ _ _ _); refine jy (yin rfl if79 rfl) rfl rfl ?_))) | (show Jo _ (.call _); ((show Jo (some 15) (.call _); refine jcall (ι := Hd × RI) (vs := [.slice (some ⟨H1.gI, 0, none⟩) H1.s.length H1.cap, .agg #[.bool H1.nf, .bool H1.nd], fnV 54]) _ bo69 rfl rfl rfl (hp69 _) (fun p hp => ?_)))) | (show Jo _ (.extract _ _); refine jy (yextractL rfl rfl) rfl rfl ?_) | (show Jo (some 3) (.box _ _); refine jbox rfl rfl rfl (fun gC hgC => ?_))))
    exact ret2 rfl rfl rfl rfl (fun w' hw' => ⟨p, rfl, hw.up hw', hfin hp⟩)
end Go.Proofs.YtkehggbmpdacpabGreatDoor.Pg
namespace Go.Proofs.YtkehggbmpdacpabGreatDoor.Lex0
open Go.Proofs.YtkehggbmpdacpabGreatDoor.Dec0 Go.Proofs.YtkehggbmpdacpabGreatDoor.Txt0
def isSpT (t : T) : Bool := t.all fun c => isSp c.toNat
def bitsT (ty : Nat) (nw : Bool) : Nat :=
  (if ty = 18 ∨ ty = 17 then 1 else 0) + (if ty = 17 then 2 else 0) + (if nw then 4 else 0) + (if ty = 13 then 8 else 0) + (if ty = 14 then 16 else 0) + (if ty = 8 ∨ ty = 10 then 32 else 0) + (if ty = 9 ∨ ty = 11 then 64 else 0) + (if ty = 12 then 128 else 0) + (if ty = 15 then 256 else 0) + (if ty = 16 then 512 else 0) + (if ty = 10 ∨ ty = 11 then 1024 else 0) + (if 3 ≤ ty ∧ ty ≤ 6 then 2048 else 0) + (if ty = 0 ∨ ty = 1 then 4096 else 0) + (if ty = 1 then 8192 else 0) + (if ty = 0 then 16384 else 0)
structure Ti where
  ty : Nat
  pos : Nat
  text : T
  failed : Bool
  is : Nat
deriving DecidableEq
def posI (it : Itm) : Nat := match it.segs with
  | [] => it.low
  | p :: _ => p.1
def valI (s : T) (it : Itm) : T := if it.segs = [] then cut s it.low it.high else it.segs.flatMap fun p => cut s p.1 p.2
def toldI (E : Env) (s : T) (it : Itm) : Ti := ⟨it.ty, posI it, valI s it, it.err, bitsT it.ty (!(E.tr (valI s it)).isEmpty)⟩
def tiOf (ty pos : Nat) (t : T) : Ti := ⟨ty, pos, t, false, bitsT ty (!isSpT t)⟩
def asc (t : T) : Prop := ∀ c ∈ t, c.toNat < 128
structure TrA (E : Env) : Prop where
  asc : ∀ t, asc t → (E.tr t).isEmpty = isSpT t
theorem asc_app {a b : T} (h : asc a) (k : asc b) : asc (a ++ b) := fun c hc => by
  rcases List.mem_append.1 hc with h' | h'
  · exact h c h'
  · exact k c h'
theorem toldI_of {E : Env} (hT : TrA E) {s : T} {it : Itm} {t : T} {p : Nat} (h1 : valI s it = t) (h2 : asc t) (h3 : it.err = false) (h4 : posI it = p) : toldI E s it = tiOf it.ty p t := by
  unfold toldI tiOf
  rw [h1, h3, h4, hT.asc t h2]
theorem told_mk {E : Env} (hT : TrA E) {s : T} {ty a b : Nat} {t : T} (h : cut s a b = t) (ha : asc t) : toldI E s (mk ty a b) = tiOf ty a t := toldI_of hT (h : _ = t) ha rfl rfl
structure Book where
  s : T
  l : List Ti
def Book.as_ (b : Book) (ty : Nat) (text told : T) : Book := ⟨b.s ++ text, b.l ++ [tiOf ty b.s.length told]⟩
def Book.put (b : Book) (ty : Nat) (text : T) : Book := b.as_ ty text text
def Book.pass (b : Book) (text : T) : Book := ⟨b.s ++ text, b.l⟩
structure Ctl where
  md : Bool
  inl : Bool
  name : ByteArray
  closing : Nat
  step : Nat
  par : Nat
  op : List (ByteArray × Bool)
  org : Bool
  chk : Bool
def ctl (x : Lx) : Ctl := ⟨x.md, x.inl, x.name, x.closing, x.step, x.par, x.op, x.org, x.chk⟩
structure Sim (E : Env) (s : T) (b : Book) (r : T) (c : Ctl) (x : Lx) : Prop where
  e : s = b.s ++ r
  p : x.pos = b.s.length
  st : x.start = x.pos
  l : x.items.map (toldI E s) = b.l
  c : ctl x = c
theorem Sim.drop {E : Env} {s : T} {b : Book} {r : T} {c : Ctl} {x : Lx} (h : Sim E s b r c x) : s.drop x.pos = r := by rw [h.e, h.p, List.drop_left]
def Go (E : Env) (s : T) (dv : Bool) (st : St) (b : Book) (r : T) (c : Ctl) (st' : St) (b' : Book) (r' : T) (c' : Ctl) : Prop := ∀ x, Sim E s b r c x → ∃ x', Steps E s dv st x st' x' ∧ Sim E s b' r' c' x'
theorem Go.refl {E : Env} {s : T} {dv : Bool} {st : St} {b : Book} {r : T} {c : Ctl} : Go E s dv st b r c st b r c := fun x h => ⟨x, .refl, h⟩
theorem Go.trans {E : Env} {s : T} {dv : Bool} {st1 st2 st3 : St} {b1 b2 b3 : Book} {r1 r2 r3 : T} {c1 c2 c3 : Ctl} (h : Go E s dv st1 b1 r1 c1 st2 b2 r2 c2) (k : Go E s dv st2 b2 r2 c2 st3 b3 r3 c3) : Go E s dv st1 b1 r1 c1 st3 b3 r3 c3 := fun x hx => by
  obtain ⟨y, h1, h2⟩ := h x hx
  obtain ⟨z, h3, h4⟩ := k y h2
  exact ⟨z, h1.trans h3, h4⟩
section
variable {E : Env} {s : T} {dv : Bool} {b : Book} {c : Ctl}
theorem Sim.put {r' u t : T} {ty : Nat} {c' : Ctl} {x y : Lx} (hx : Sim E s b (u ++ r') c x) (hp : y.pos = x.pos + u.length) (hst : y.start = y.pos) (it : Itm) (hi : y.items = x.items ++ [it]) (ht : toldI E s it = tiOf ty x.pos t) (hc : ctl y = c') : Sim E s (b.as_ ty u t) r' c' y := by
  obtain ⟨h1, h2, h3, h4, h5⟩ := hx
  refine ⟨?_, ?_, hst, ?_, hc⟩
  · show s = (b.s ++ u) ++ r'; rw [h1, List.append_assoc]
  · show _ = (b.s ++ u).length; rw [hp, h2, List.length_append]
  · rw [hi, List.map_append, h4, List.map_cons, List.map_nil, ht, h2]; rfl
theorem Sim.pass {r' u : T} {c' : Ctl} {x y : Lx} (hx : Sim E s b (u ++ r') c x) (hp : y.pos = x.pos + u.length) (hst : y.start = y.pos) (hi : y.items = x.items) (hc : ctl y = c') : Sim E s (b.pass u) r' c' y := by
  obtain ⟨h1, h2, h3, h4, h5⟩ := hx
  refine ⟨?_, ?_, hst, ?_, hc⟩
  · show s = (b.s ++ u) ++ r'; rw [h1, List.append_assoc]
  · show _ = (b.s ++ u).length; rw [hp, h2, List.length_append]
  · rw [hi]; exact h4
theorem g_sp (u : T) {r : T} (hu : ∀ c ∈ u, isSp c.toNat = true) : Go E s dv .inside b (u ++ r) c .inside (b.pass u) r c := fun x hx =>
  ⟨_, in_sp u hx.st hx.drop hu, hx.pass rfl rfl rfl hx.c⟩
theorem asc_rd (md : Bool) : asc (rd md) := by cases md <;> (intro c hc; revert c; decide)
theorem asc_lf (md : Bool) : asc (if md then lmd else lno) := by cases md <;> (intro c hc; revert c; decide)
theorem g_right (hT : TrA E) {r : T} {md : Bool} (hm : c.md = md) : Go E s dv .inside b (rd md ++ r) c .main (b.put (if md then 11 else 9) (rd md)) r { c with closing := 0 } := fun x hx => by
  have hmd : x.md = md := by rw [← hm, ← hx.c]; rfl
  have hd := hx.drop
  rw [← hmd] at hd hx ⊢
  refine ⟨_, .go (in_right hd) (.one right_main), hx.put (by rw [rd3]) rfl _ rfl ?_ (by rw [← hx.c]; rfl)⟩
  rw [← hx.st]
  refine told_mk hT ?_ (asc_rd _)
  rw [hx.st]
  have := cut_at hd
  rw [rd3] at this
  exact this
theorem isN_lt {c : UInt8} (h : isN c = true) : c.toNat < 128 := by
  unfold isN at h
  simp only [Bool.or_eq_true, beq_iff_eq] at h
  rcases h with (h | h) | h
  · exact isW_lt h
  · omega
  · omega
structure NameT (w : T) : Prop where
  ne : w ≠ []
  h0 : ∀ c, w.head? = some c → isW c = true
  all : ∀ c ∈ w, isN c = true
theorem NameT.asc {w : T} (h : NameT w) : asc w := fun c hc => isN_lt (h.all c hc)
def ctlN (c : Ctl) (inl : Bool) (w : T) : Ctl := { c with inl := inl, closing := 0, name := ba w, step := c.step + 1, op := oset (ba w) true (if 0 < c.closing then oset (ba w) false c.op else c.op) }
theorem asc_dot : asc dotInl := by intro c hc; revert c; decide
theorem g_nameI (hE : EA E) (hT : TrA E) {w r : T} (hw : NameT w) (hi : c.inl = false) (hst : c.step = 0) (ho : c.closing = 0 ∨ oget (ba (w ++ dotInl)) c.op = true) :
    Go E s dv .inside b ((w ++ dotInl) ++ 32 :: r) c (if 0 < c.closing then .endsc else .inside) (b.put 14 (w ++ dotInl)) (32 :: r) (ctlN c true (w ++ dotInl)) := fun x hx => by
  have hc := hx.c
  subst hc
  refine ⟨_, in_nameI hE hx.st hi hst hx.drop hw.ne hw.h0 hw.all ho, hx.put rfl rfl _ rfl ?_ rfl⟩
  rw [← hx.st]
  exact told_mk hT (by rw [hx.st]; exact cut_at hx.drop) (asc_app hw.asc asc_dot)
structure ValT (v : T) : Prop where
  asc : asc v
  q : ∀ c ∈ v, c ≠ 92 ∧ c ≠ 10
  h0 : v.head? ≠ some 34
theorem isP_lt {c : UInt8} (h : isP c = true) : c.toNat < 128 := by
  unfold isP at h
  simp only [Bool.or_eq_true, beq_iff_eq] at h
  rcases h with (h | h) | h
  · exact isW_lt h
  · omega
  · omega
structure BareT (w : T) : Prop where
  ne : w ≠ []
  h0 : ∀ c, w.head? = some c → isW c = true
  all : ∀ c ∈ w, isP c = true
theorem BareT.asc {w : T} (h : BareT w) : asc w := fun c hc => isP_lt (h.all c hc)
def texts (b : Book) (u : T) : Book := ⟨b.s ++ u, b.l ++ (let t := u.reverse; let k := (t.takeWhile isBl).length; if u = [] then [] else if t ≠ [] ∧ k = t.length then [tiOf 17 b.s.length u] else if 0 < k ∧ (t.drop k).head? = some 10 then [tiOf 18 b.s.length (u.take (u.length - k)), tiOf 17 (b.s.length + (u.length - k)) (u.drop (u.length - k))] else [tiOf 18 b.s.length u])⟩
theorem tw_len_le (u : T) : ((u.reverse).takeWhile isBl).length ≤ u.length := by
  have := (List.takeWhile_sublist (l := u.reverse) isBl).length_le
  rwa [List.length_reverse] at this
theorem told_txts (hT : TrA E) {p : Nat} {u r : T} (hd : s.drop p = u ++ r) (ha : asc u) (hu : u ≠ []) : (txts s p (p + u.length)).map (toldI E s) = (let t := u.reverse; let k := (t.takeWhile isBl).length; if t ≠ [] ∧ k = t.length then [tiOf 17 p u] else if 0 < k ∧ (t.drop k).head? = some 10 then [tiOf 18 p (u.take (u.length - k)), tiOf 17 (p + (u.length - k)) (u.drop (u.length - k))] else [tiOf 18 p u]) := by
  have hc := cut_at hd
  have hk := tw_len_le u
  rw [txts_cut hc]
  dsimp only
  generalize ((u.reverse).takeWhile isBl).length = k at hk ⊢
  have h1 : cut s p (p + (u.length - k)) = u.take (u.length - k) := by
    unfold cut
    rw [hd, show p + (u.length - k) - p = u.length - k by omega, List.take_append_of_le_length (by omega)]
  have h2 : cut s (p + (u.length - k)) (p + u.length) = u.drop (u.length - k) := by
    unfold cut
    rw [← List.drop_drop, hd, List.drop_append_of_le_length (by omega), show p + u.length - (p + (u.length - k)) = (u.drop (u.length - k)).length by rw [List.length_drop]; omega, List.take_left]
  have a1 : asc (u.take (u.length - k)) := fun c hc => ha c (List.mem_of_mem_take hc)
  have a2 : asc (u.drop (u.length - k)) := fun c hc => ha c (List.mem_of_mem_drop hc)
  split
  · simp only [List.map_cons, List.map_nil, told_mk hT hc ha]
  · split
    · rw [show p + u.length - k = p + (u.length - k) by omega]
      simp only [List.map_cons, List.map_nil, told_mk hT h1 a1, told_mk hT h2 a2]
    · simp only [List.map_cons, List.map_nil, told_mk hT hc ha]
theorem told_opn (hT : TrA E) {u r : T} {x : Lx} (hx : Sim E s b (u ++ r) c x) (ha : asc u) : (x.items ++ opn s x.start (x.pos + u.length)).map (toldI E s) = (texts b u).l := by
  rw [List.map_append, hx.l, hx.st]
  unfold texts opn
  dsimp only
  by_cases hu : u = []
  · subst hu
    rw [if_neg (by simp), if_pos rfl]; rfl
  · have := List.length_pos_iff.2 hu
    rw [if_pos (by omega), if_neg hu, told_txts hT hx.drop ha hu, hx.p]
theorem g_left (hT : TrA E) (u : T) {r : T} (md : Bool) (ha : asc u) (hf : ∀ x, Sim E s b (u ++ ((if md then lmd else lno) ++ r)) c x → found s dv x = some u.length) (hi : c.inl = true → inlOk E r c.name = true) (hc : [47, 42].isPrefixOf r = false) :
    Go E s dv .main b (u ++ ((if md then lmd else lno) ++ r)) c .inside ((texts b u).put (if md then 10 else 8) (if md then lmd else lno)) r { c with md := md, step := 0, par := 0 } := fun x hx => by
  have hcx := hx.c
  subst hcx
  have hd2 : s.drop (x.pos + u.length) = (if md then lmd else lno) ++ r := drop_more hx.drop
  have hm : Sim E s (texts b u) ((if md then lmd else lno) ++ r) (ctl x) { x with pos := x.pos + u.length, start := x.pos + u.length, items := x.items ++ opn s x.start (x.pos + u.length) } :=
    ⟨by show s = (b.s ++ u) ++ _; rw [List.append_assoc]; exact hx.e, by show _ = (b.s ++ u).length; rw [List.length_append, ← hx.p], rfl, told_opn hT hx ha, rfl⟩
  refine ⟨_, go_in (hf x hx) (Nat.le_of_eq hx.st) hd2 hi hc, Sim.put hm (by rw [lf3]) rfl _ rfl ?_ rfl⟩
  refine told_mk hT ?_ (asc_lf md)
  have := cut_at hd2
  rw [lf3] at this
  exact this
theorem found_of_sim {u r : T} {x : Lx} (hx : Sim E s b (u ++ 123 :: 123 :: r) c x) (h1 : ∀ c ∈ u, c ≠ 123) (h2 : dv = true → c.chk = false → ∀ d ∈ u, d ≠ if c.org then 35 else 60) : found s dv x = some u.length := by
  have hc := hx.c
  subst hc
  refine found_left hx.drop h1 (fun ho => ?_)
  unfold dvOn at ho
  simp only [Bool.and_eq_true, Bool.not_eq_true'] at ho
  exact h2 ho.1 ho.2
theorem texts_nil (b : Book) : texts b [] = b := by
  unfold texts
  dsimp only
  rw [if_pos rfl, List.append_nil, List.append_nil]
end
def c0 : Ctl := ⟨false, false, ⟨#[]⟩, 0, 0, 0, [], false, false⟩
theorem sim0 (E : Env) (s : T) : Sim E s ⟨[], []⟩ s c0 lx0 := ⟨rfl, rfl, rfl, rfl, rfl⟩
end Go.Proofs.YtkehggbmpdacpabGreatDoor.Lex0
