/- The page laws: texts that all of them use, joined (part 11): Pg31, Pg32, Pg33, Pg34, Pg35, Pg36. -/
import Derived.Test.YtkehggbmpdacpacGreatDoorKp8
import Derived.Test.YtkehggbmpdacpacGreatDoorKp10
set_option maxRecDepth 100000
set_option linter.unusedVariables false
set_option linter.unusedSimpArgs false
set_option linter.unusedSectionVars false
namespace Go.Proofs.YtkehggbmpdacpacGreatDoor.Pg
open Go.Rx hiding bt
open Go.RowKit Go.Proofs.YtkehggbmpdacpacGreatDoor.Dec0 Go.Proofs.YtkehggbmpdacpacGreatDoor.Lex0
theorem lex1_cases {E : Env} {s : T} {x : Lx} : lex1 E s x = none ∨ lex1 E s x = some (errI x, none) ∨ lex1 E s x = some ({ x with md := lmd.isPrefixOf (s.drop x.pos) }, some .left) := by
  unfold lex1
  split
  · split
    · exact .inr (.inl rfl)
    · exact .inr (.inr rfl)
  · exact .inl rfl
theorem lexR_1 {E : Env} {s : T} {dv : Bool} {x : Lx} {r : Res} (h : lex1 E s x = some r) : lexR E s dv x = r := by unfold lexR; rw [h]
theorem lexR_2 {E : Env} {s : T} {dv : Bool} {x y : Lx} (h : lex1 E s x = none) (hd : dvOn dv x = true) (h2 : lex2 s x = some y) : lexR E s dv x = (y, some .main) := by unfold lexR; rw [h]; dsimp only; rw [if_pos hd, h2]
theorem lexR_3 {E : Env} {s : T} {dv : Bool} {x : Lx} (h : lex1 E s x = none) (h2 : (if dvOn dv x then lex2 s x else none) = none) : lexR E s dv x = (mv 1 x, some .main) := by unfold lexR; rw [h]; dsimp only; rw [h2]
def FX (H : Hd) (S : Sec) (N j : Nat) : Fr := [(0, pS H), (1, fnV 45), (36, .slice (some ⟨S.gh, 0, none⟩) N 2), (37, .int .i64 (N : Nat)), (38, .int .i64 (j : Nat))]
set_option maxHeartbeats 2000000 in
theorem hlex_end {Z X : Cx} {H : Hd} {G : Mem} {w : World} {m0 : Mem} (hZ : Z = X.sub 77 w) (hw : Cl X m0 w) (hX : Ok Z H) {S : Sec} {b : Bool} {y : Lx} {q : RS} (hS : StOk Z H y q G) (st : Value) (W gd : Nat) (hp1 : y.pos + 1 ≤ H.s.length)
    (h1 : lex1 envT H.s y = none) (h2 : (if dvOn b y then lex2 H.s y else none) = none) :
    PJ Z ((codeOut Tryz.f76 13).wp Tryz.prog (bodyPost Tryz.prog Tryz.f76 fun e w' => ∃ (q' : RS) (W' : Nat), e = .returned (stV (lexR envT H.s b y).2) ∧ Cl X (cM H (lexR envT H.s b y).1 st W' gd q' (secD b H S) G) w' ∧ StOk X H (lexR envT H.s b y).1 q' G)) [(0, pS H), (1, fnV 45)] (cM H y st W gd q (secD b H S) G) := by
  subst hZ
  have hbig := hX.big
  conv => arg 2; arg 2; whnf
  have e1 := lexR_3 (dv := b) h1 h2
  rw [e1]
  cases b
  · repeat' (first | refine cseq ?_ | refine rtext ?_ | refine cret ?_ | refine jnil ?_ | (first | refine jmv rfl rfl rfl ?_ | refine jy (ynil rfl) rfl rfl ?_ | (show Jo _ (.fieldAddr _ _ _); refine jy (yfield rfl (by first | exact fb136_0 | exact fb142_3) rfl) rfl rfl ?_) | (show Jo _ (.load _ _); first | refine jy (yload (i := 0) rfl rfl rfl one3) rfl rfl ?_ | refine jy (yload (i := 5) rfl rfl rfl one3) rfl rfl ?_) | refine jas_ rfl rfl rfl ?_ | (show Jo _ (.binOp _ _ _ _ _); ((show Jo (some 73) (.binOp .add _ _ _ _); refine jy (yadd (c := ((y.pos + 1 : Nat) : Int)) rfl rfl (by dsimp only [lsOf]; rw [i64_in (by omega) (by omega)]; omega)) rfl rfl ?_))) | (show Jo _ (.store _ _ _); refine jstore (i := 0) rfl rfl rfl rfl rfl si3 hX.mL ?_)))
    exact ret1 rfl rfl rfl (fun w' hw' => ⟨q, W, rfl, hw.up hw', (StOk.up hw hS).mv rfl hp1 (Nat.le_succ_of_le (StOk.up hw hS).s)⟩)
  · repeat' (first | refine cseq ?_ | refine rtext ?_ | refine cret ?_ | refine jnil ?_ | (first | refine jmv rfl rfl rfl ?_ | refine jy (ynil rfl) rfl rfl ?_ | (show Jo _ (.fieldAddr _ _ _); refine jy (yfield rfl (by first | exact fb136_0 | exact fb142_3) rfl) rfl rfl ?_) | (show Jo _ (.load _ _); first | refine jy (yload (i := 0) rfl rfl rfl one3) rfl rfl ?_ | refine jy (yload (i := 5) rfl rfl rfl one3) rfl rfl ?_) | refine jas_ rfl rfl rfl ?_ | (show Jo _ (.binOp _ _ _ _ _); ((show Jo (some 73) (.binOp .add _ _ _ _); refine jy (yadd (c := ((y.pos + 1 : Nat) : Int)) rfl rfl (by dsimp only [lsOf]; rw [i64_in (by omega) (by omega)]; omega)) rfl rfl ?_))) | (show Jo _ (.store _ _ _); refine jstore (i := 0) rfl rfl rfl rfl rfl si3 hX.mL ?_)))
    exact ret1 rfl rfl rfl (fun w' hw' => ⟨q, W, rfl, hw.up hw', (StOk.up hw hS).mv rfl hp1 (Nat.le_succ_of_le (StOk.up hw hS).s)⟩)
theorem cz1n {X : Cx} {H : Hd} {F G : Mem} (hX : Ok X H) {x : Lx} {q : RS} (hS : StOk X H x q G) (hf : x.items.length < 999999999000) (hnl : x.name.size ≤ 4611686018427387904) (o : Value) (st : Value) (W gd : Nat) (h : lex1 envT H.s x = none) :
    ∀ w, Cl X (cM H x st W gd q F G) w → Calls Tryz.prog 110 #[o, pL H] w fun e w' => ∃ _ : Unit, e = .returned (.tuple #[o, .bool false]) ∧ Cl X (cM H x st W gd q F G) w' ∧ True := by
  intro w hw
  have := lex1_calls hX hS hf hnl o st W gd w hw
  rw [h] at this
  exact this.mono fun e w' ⟨h1, h2⟩ => ⟨(), h1, h2, trivial⟩
theorem cz1 {X : Cx} {H : Hd} {F G : Mem} (hX : Ok X H) {x : Lx} {q : RS} (hS : StOk X H x q G) (hf : x.items.length < 999999999000) (hnl : x.name.size ≤ 4611686018427387904) (o : Value) (st : Value) (W gd : Nat) {r : Res} (h : lex1 envT H.s x = some r) :
    ∀ w, Cl X (cM H x st W gd q F G) w → Calls Tryz.prog 110 #[o, pL H] w fun e w' => ∃ q' : RS, e = .returned (.tuple #[stV r.2, .bool true]) ∧ Cl X (cM H r.1 st W gd q' F G) w' ∧ StOk X H r.1 q' G := by
  intro w hw
  have := lex1_calls hX hS hf hnl o st W gd w hw
  rw [h] at this
  exact this
theorem cz2n {X : Cx} {H : Hd} {F G : Mem} (hX : Ok X H) {x : Lx} {q : RS} (hS : StOk X H x q G) (hf : x.items.length < 999999999000) (o : Value) (st : Value) (W gd : Nat) (h : lex2 H.s x = none) :
    ∀ w, Cl X (cM H x st W gd q F G) w → Calls Tryz.prog 116 #[o, pL H] w fun e w' => ∃ _ : Unit, e = .returned (.tuple #[o, .bool false]) ∧ Cl X (cM H x st W gd q F G) w' ∧ True := by
  intro w hw
  have := lex2_calls hX hS hf o st W gd w hw
  rw [h] at this
  exact this.mono fun e w' ⟨h1, h2⟩ => ⟨(), h1, h2, trivial⟩
theorem cz2 {X : Cx} {H : Hd} {F G : Mem} (hX : Ok X H) {x : Lx} {q : RS} (hS : StOk X H x q G) (hf : x.items.length < 999999999000) (o : Value) (st : Value) (W gd : Nat) {y : Lx} (h : lex2 H.s x = some y) :
    ∀ w, Cl X (cM H x st W gd q F G) w → Calls Tryz.prog 116 #[o, pL H] w fun e w' => ∃ q' : RS × Nat, e = .returned (.tuple #[o, .bool true]) ∧ Cl X (cM H y st q'.2 gd q'.1 F G) w' ∧ StOk X H y q'.1 G := by
  intro w hw
  have := lex2_calls hX hS hf o st W gd w hw
  rw [h] at this
  exact this.mono fun e w' ⟨q', V, h1, h2, h3⟩ => ⟨(q', V), h1, h2, h3⟩
set_option maxHeartbeats 2000000 in
theorem hlexF {Z X : Cx} {H : Hd} {G : Mem} {w : World} {m0 : Mem} (hZ : Z = X.sub 77 w) (hw : Cl X m0 w) (hX : Ok Z H) {S : Sec} {y : Lx} {q : RS} (hS : StOk Z H y q G) (hf : y.items.length < 999999999000) (hnl : y.name.size ≤ 4611686018427387904) (st : Value) (W gd : Nat) (hp1 : y.pos + 1 ≤ H.s.length)
    (hs1 : S.s1 = true → lex1 envT H.s y = none) :
    PJ Z ((codeOut Tryz.f76 5).wp Tryz.prog (bodyPost Tryz.prog Tryz.f76 fun e w' => ∃ (q' : RS) (W' : Nat), e = .returned (stV (lexR envT H.s false y).2) ∧ Cl X (cM H (lexR envT H.s false y).1 st W' gd q' (secD false H S) G) w' ∧ StOk X H (lexR envT H.s false y).1 q' G)) [(0, pS H), (1, fnV 45)] (cM H y st W gd q (secD false H S) G) := by
  obtain ⟨b, hb⟩ : ∃ b, b = false := ⟨_, rfl⟩
  have hend := fun h1 => hlex_end (b := false) hZ hw hX (S := S) hS st W gd hp1 h1 rfl
  subst hZ
  conv => arg 2; arg 2; whnf
  conv at hend => intro h; arg 2; arg 2; whnf
  repeat' (first | refine cseq ?_ | refine rtext ?_ | refine cblk ?_ | refine jnil ?_ | (first | refine jmv rfl rfl rfl ?_ | refine jy (ynil rfl) rfl rfl ?_ | (show Jo _ (.fieldAddr _ _ _); refine jy (yfield rfl fb136_2 rfl) rfl rfl ?_) | (show Jo _ (.load _ _); refine jy (yload (i := 5) rfl rfl rfl one3) rfl rfl ?_) | (show Jo _ (.call _); ((show Jo _ (.call ⟨.builtin .len, _, _⟩); refine jy (ylenl rfl und133) rfl rfl ?_)))))
  refine fin (f' := FX H S 1 0) (m' := cM H y st W gd q (secD false H S) G) (cloop (ι := Nat) (FX H S 1) (fun _ => cM H y st W gd q (secD false H S) G) (fun n j => n = 1 - j ∧ j ≤ 1 ∧ (1 ≤ j → lex1 envT H.s y = none)) 1 0 ⟨rfl, Nat.zero_le _, fun h => by omega⟩ ?_) ⟨rfl, rfl, rfl, rfl, rfl, trivial⟩ rfl
  rintro n j ⟨rfl, hj, hj1⟩ K hK
  match j, hj, hj1 with
  | 0, _, _ =>
    have hk := fun h => hK 0 1 (by omega) ⟨rfl, Nat.le_refl _, fun _ => h⟩
    have hiz : (⟨S.gh, 0, none⟩ : Addr).add (((0 : Nat) : Int).toNat * 1) = ⟨S.gh, 0, none⟩ := rfl
    rcases (Bool.eq_false_or_eq_true S.s1).symm with hv | hv
    · rcases lex1_cases (E := envT) (s := H.s) (x := y) with hl | hl | hl
      · have hczU := cz1n hX hS hf hnl (fnV 45) st W gd (F := secD false H S) hl
        repeat' (first | refine cfalse (congrArg (fun b => some (Value.bool b)) hv) ?_ | first | (show PJ _ (Code.wp _ _ _) _ _; first | refine cseq ?_ | refine rtext ?_ | refine ctrue rfl ?_ | refine cfalse rfl ?_ | refine cskip ?_ | refine cblk ?_ | (show PJ _ (Code.wp _ (Code.region 9 _ true) _) _ _; refine ranyT 9 [h1B H S] mixed ?_)) | refine tnorm ?_ | refine jnil ?_ | (first | refine jmv rfl rfl rfl ?_ | refine jy (ynil rfl) rfl rfl ?_ | (show Jo _ (.fieldAddr _ _ _); refine jy (yfield rfl fb136_1 rfl) rfl rfl ?_) | (show Jo _ (.load _ _); first | refine jy (yload (i := 6) rfl rfl rfl one3) rfl rfl ?_ | refine jy (yload (i := 7) rfl rfl rfl one3) rfl rfl ?_) | refine jas_ rfl rfl rfl ?_ | (show Jo _ (.binOp _ _ _ _ _); first | (show Jo (some 65) (.binOp .add _ _ _ _); (refine jy (yadd (c := ((1 : Nat) : Int)) rfl rfl (by rw [i64_in (by omega) (by omega)]; omega)) rfl rfl ?_)) | (show Jo (some 60) (.binOp .eql _ _ _ _); refine jy (yfe rfl rfl fn104 rfl) rfl rfl ?_) | refine jy (ylss rfl rfl (by (exact decide_eq_true (by omega)))) rfl rfl ?_) | (show Jo _ (.pick _ _ _); refine jy (ypick0 rfl rfl) rfl rfl ?_) | (show Jo _ (.call _); ((show Jo (some 56) (.call _); refine jcallC (k := 110) (us := []) (vs := [fnV 45, pL H]) (ι := Unit) _ rfl bo137 rfl rfl rfl hczU (fun _ _ => ?_)))) | (show Jo _ (.indexAddr 105 _ _); refine jy (yat rfl rfl und133 sz137 (by omega) (by omega) hiz) rfl rfl ?_)) | first | (show JT _ _ _ _ _ _ [] _ _; refine jtnil ?_) | (first | (show JTo _ (.move _); refine jty (ymove rfl) rfl rfl ?_) | (show JTo _ (.nilCheck _); refine jty (ynil rfl) rfl rfl ?_) | (show JTo _ (.fieldAddr _ _ _); refine jty (yfield rfl (by first | exact fb136_0 | exact fb142_3) rfl) rfl rfl ?_) | (show JTo _ (.load _ _); refine jty (yload (i := 0) rfl rfl rfl one3) rfl rfl ?_) | (show JTo _ (.assign _); refine jty (yassign rfl) rfl rfl ?_) | (show JTo _ (.extract _ _); refine jty (yextractL rfl rfl) rfl rfl ?_)) | first | (show PJ _ (WKeep _ _ _) _ _; refine jas (fun _ h => h.less (by repeat ((exact List.nil_sublist _)))) ?_) | (show PJ _ (WIf _ _ _) _ _; refine jaw ?_) | (show PJ _ (WAnyT _ _ _ _ _ _ _ _) _ _; first | refine jaqT (n := 9) (g' := 6) (D := []) [0, 1, 2, 3, 4, 5, 6, 7, 8] rfl (fun _ h => h.less (by repeat (first | exact List.nil_sublist _ | refine List.Sublist.cons_cons _ ?_ | refine List.Sublist.cons _ ?_))) (by kernel_rfl) (by kernel_rfl) (by kernel_rfl) (by kernel_rfl) (by kernel_rfl) rfl (fun _ d _ _ _ h => by cases d <;> exact h) rfl ?_ | refine jfullT (D := [0, 1, 2, 3, 4, 5, 6, 7, 8]) (by kernel_rfl) ?_) | (show PJ _ (WAny _ _ _ _ _ _ _) _ _; first | refine ja1 (g' := 5) (D := [0, 1, 2, 3, 4, 5, 6, 7, 8]) 9 rfl rfl (by kernel_rfl) rfl ?_ | refine jaq (g' := 0) (D := [0, 1, 2, 3, 4, 5, 6, 7, 8, 9]) [10, 11, 12, 13, 14] rfl (fun _ h => h.less (by repeat ((exact List.nil_sublist _)))) (by kernel_rfl) (by kernel_rfl) rfl (fun _ d _ _ _ h => by cases d <;> exact h) rfl ?_ | refine jadone rfl (by kernel_rfl) ?_))
        exact fin (hk hl) ⟨rfl, rfl, rfl, rfl, rfl, trivial⟩ rfl
      · have hcz := cz1 hX hS hf hnl (fnV 45) st W gd (F := secD false H S) hl
        rw [lexR_1 (dv := false) hl]
        repeat' (first | refine cfalse (congrArg (fun b => some (Value.bool b)) hv) ?_ | first | (show PJ _ (Code.wp _ _ _) _ _; first | refine cseq ?_ | refine rtext ?_ | refine ctrue rfl ?_ | refine cskip ?_ | refine cblk ?_ | refine cret ?_ | (show PJ _ (Code.wp _ (Code.region 9 _ true) _) _ _; refine ranyT 9 [h1B H S] mixed ?_)) | refine tret ?_ | refine bret ?_ | refine jnil ?_ | (first | refine js rfl rfl ?_ | refine jmv rfl rfl rfl ?_ | refine jy (ynil rfl) rfl rfl ?_ | (show Jo _ (.fieldAddr _ _ _); refine jy (yfield rfl fb136_1 rfl) rfl rfl ?_) | (show Jo _ (.load _ _); first | refine jy (yload (i := 6) rfl rfl rfl one3) rfl rfl ?_ | refine jy (yload (i := 7) rfl rfl rfl one3) rfl rfl ?_) | refine jas_ rfl rfl rfl ?_ | (show Jo _ (.binOp _ _ _ _ _); first | (show Jo (some 60) (.binOp .eql _ _ _ _); refine jy (yfe rfl rfl fn104 rfl) rfl rfl ?_) | refine jy (ylss rfl rfl (by (exact decide_eq_true (by omega)))) rfl rfl ?_) | (show Jo _ (.pick _ _ _); refine jy (ypick1 rfl rfl) rfl rfl ?_) | (show Jo _ (.call _); ((show Jo (some 56) (.call _); refine jcallC (k := 110) (us := []) (vs := [fnV 45, pL H]) (ι := RS) _ rfl bo137 rfl rfl rfl hcz (fun q1 hS1 => ?_)))) | (show Jo _ (.indexAddr 105 _ _); refine jy (yat rfl rfl und133 sz137 (by omega) (by omega) hiz) rfl rfl ?_)) | first | (show JT _ _ _ _ _ _ [] _ _; refine jtnil ?_) | (first | (show JTo _ (.move _); refine jty (ymove rfl) rfl rfl ?_) | (show JTo _ (.nilCheck _); refine jty (ynil rfl) rfl rfl ?_) | (show JTo _ (.fieldAddr _ _ _); refine jty (yfield rfl (by first | exact fb136_0 | exact fb142_3) rfl) rfl rfl ?_) | (show JTo _ (.load _ _); refine jty (yload (i := 0) rfl rfl rfl one3) rfl rfl ?_) | (show JTo _ (.assign _); refine jty (yassign rfl) rfl rfl ?_) | (show JTo _ (.extract _ _); refine jty (yextractL rfl rfl) rfl rfl ?_)) | first | (show PJ _ (WKeep _ _ _) _ _; refine jas (fun _ h => h.less (by repeat ((exact List.nil_sublist _)))) ?_) | (show PJ _ (WIf _ _ _) _ _; refine jaw ?_) | (show PJ _ (WAnyT _ _ _ _ _ _ _ _) _ _; first | refine jaqT (n := 9) (g' := 6) (D := []) [0, 1, 2, 3, 4, 5, 6, 7, 8] rfl (fun _ h => h.less (by repeat (first | exact List.nil_sublist _ | refine List.Sublist.cons_cons _ ?_ | refine List.Sublist.cons _ ?_))) (by kernel_rfl) (by kernel_rfl) (by kernel_rfl) (by kernel_rfl) (by kernel_rfl) rfl (fun _ d _ _ _ h => by cases d <;> exact h) rfl ?_ | refine jfullT (D := [0, 1, 2, 3, 4, 5, 6, 7, 8]) (by kernel_rfl) ?_) | (show PJ _ (WAny _ _ _ _ _ _ _) _ _; first | refine ja1 (g' := 5) (D := [0, 1, 2, 3, 4, 5, 6, 7, 8]) 9 rfl rfl (by kernel_rfl) rfl ?_ | refine jaq (g' := 0) (D := [0, 1, 2, 3, 4, 5, 6, 7, 8, 9]) [10, 11, 12, 13, 14] rfl (fun _ h => h.less (by repeat ((exact List.nil_sublist _)))) (by kernel_rfl) (by kernel_rfl) rfl (fun _ d _ _ _ h => by cases d <;> exact h) rfl ?_ | refine jadone rfl (by kernel_rfl) ?_))
        exact ret1 rfl rfl rfl (fun w' hw' => ⟨q1, W, rfl, hw.up hw', StOk.up hw hS1⟩)
      · have hcz := cz1 hX hS hf hnl (fnV 45) st W gd (F := secD false H S) hl
        rw [lexR_1 (dv := false) hl]
        repeat' (first | refine cfalse (congrArg (fun b => some (Value.bool b)) hv) ?_ | first | (show PJ _ (Code.wp _ _ _) _ _; first | refine cseq ?_ | refine rtext ?_ | refine ctrue rfl ?_ | refine cskip ?_ | refine cblk ?_ | refine cret ?_ | (show PJ _ (Code.wp _ (Code.region 9 _ true) _) _ _; refine ranyT 9 [h1B H S] mixed ?_)) | refine tret ?_ | refine bret ?_ | refine jnil ?_ | (first | refine jmv rfl rfl rfl ?_ | refine jy (ynil rfl) rfl rfl ?_ | (show Jo _ (.fieldAddr _ _ _); refine jy (yfield rfl fb136_1 rfl) rfl rfl ?_) | (show Jo _ (.load _ _); first | refine jy (yload (i := 6) rfl rfl rfl one3) rfl rfl ?_ | refine jy (yload (i := 7) rfl rfl rfl one3) rfl rfl ?_) | refine jas_ rfl rfl rfl ?_ | (show Jo _ (.binOp _ _ _ _ _); first | (show Jo (some 60) (.binOp .eql _ _ _ _); refine jy (yfe rfl rfl fn104 rfl) rfl rfl ?_) | refine jy (ylss rfl rfl (by (exact decide_eq_true (by omega)))) rfl rfl ?_) | (show Jo _ (.pick _ _ _); refine jy (ypick0 rfl rfl) rfl rfl ?_) | (show Jo _ (.call _); ((show Jo (some 56) (.call _); refine jcallC (k := 110) (us := []) (vs := [fnV 45, pL H]) (ι := RS) _ rfl bo137 rfl rfl rfl hcz (fun q1 hS1 => ?_)))) | (show Jo _ (.indexAddr 105 _ _); refine jy (yat rfl rfl und133 sz137 (by omega) (by omega) hiz) rfl rfl ?_)) | first | (show JT _ _ _ _ _ _ [] _ _; refine jtnil ?_) | (first | (show JTo _ (.move _); refine jty (ymove rfl) rfl rfl ?_) | (show JTo _ (.nilCheck _); refine jty (ynil rfl) rfl rfl ?_) | (show JTo _ (.fieldAddr _ _ _); refine jty (yfield rfl (by first | exact fb136_0 | exact fb142_3) rfl) rfl rfl ?_) | (show JTo _ (.load _ _); refine jty (yload (i := 0) rfl rfl rfl one3) rfl rfl ?_) | (show JTo _ (.assign _); refine jty (yassign rfl) rfl rfl ?_) | (show JTo _ (.extract _ _); refine jty (yextractL rfl rfl) rfl rfl ?_)) | first | (show PJ _ (WKeep _ _ _) _ _; refine jas (fun _ h => h.less (by repeat ((exact List.nil_sublist _)))) ?_) | (show PJ _ (WIf _ _ _) _ _; refine jaw ?_) | (show PJ _ (WAnyT _ _ _ _ _ _ _ _) _ _; first | refine jaqT (n := 9) (g' := 6) (D := []) [0, 1, 2, 3, 4, 5, 6, 7, 8] rfl (fun _ h => h.less (by repeat (first | exact List.nil_sublist _ | refine List.Sublist.cons_cons _ ?_ | refine List.Sublist.cons _ ?_))) (by kernel_rfl) (by kernel_rfl) (by kernel_rfl) (by kernel_rfl) (by kernel_rfl) rfl (fun _ d _ _ _ h => by cases d <;> exact h) rfl ?_ | refine jfullT (D := [0, 1, 2, 3, 4, 5, 6, 7, 8]) (by kernel_rfl) ?_) | (show PJ _ (WAny _ _ _ _ _ _ _) _ _; first | refine ja1 (g' := 5) (D := [0, 1, 2, 3, 4, 5, 6, 7, 8]) 9 rfl rfl (by kernel_rfl) rfl ?_ | refine jaq (g' := 0) (D := [0, 1, 2, 3, 4, 5, 6, 7, 8, 9]) [10, 11, 12, 13, 14] rfl (fun _ h => h.less (by repeat ((exact List.nil_sublist _)))) (by kernel_rfl) (by kernel_rfl) rfl (fun _ d _ _ _ h => by cases d <;> exact h) rfl ?_ | refine jadone rfl (by kernel_rfl) ?_))
        exact ret1 rfl rfl rfl (fun w' hw' => ⟨q1, W, rfl, hw.up hw', StOk.up hw hS1⟩)
    · have hl := hs1 hv
      repeat' (first | refine ctrue (congrArg (fun b => some (Value.bool b)) hv) ?_ | first | refine cseq ?_ | refine rtext ?_ | refine ctrue rfl ?_ | refine cskip ?_ | refine cblk ?_ | refine cexit ?_ | refine tnorm ?_ | refine jnil ?_ | (first | refine jmv rfl rfl rfl ?_ | refine jy (ynil rfl) rfl rfl ?_ | (show Jo _ (.fieldAddr _ _ _); refine jy (yfield rfl fb136_1 rfl) rfl rfl ?_) | (show Jo _ (.load _ _); first | refine jy (yload (i := 6) rfl rfl rfl one3) rfl rfl ?_ | refine jy (yload (i := 7) rfl rfl rfl one3) rfl rfl ?_) | refine jas_ rfl rfl rfl ?_ | (show Jo _ (.binOp _ _ _ _ _); first | (show Jo (some 65) (.binOp .add _ _ _ _); (refine jy (yadd (c := ((1 : Nat) : Int)) rfl rfl (by rw [i64_in (by omega) (by omega)]; omega)) rfl rfl ?_)) | refine jy (ylss rfl rfl (by (exact decide_eq_true (by omega)))) rfl rfl ?_) | (show Jo _ (.indexAddr 105 _ _); refine jy (yat rfl rfl und133 sz137 (by omega) (by omega) hiz) rfl rfl ?_)))
      exact fin (hk hl) ⟨rfl, rfl, rfl, rfl, rfl, trivial⟩ rfl
  | 1, _, hj1 =>
    repeat' ((fail_if_success (show PJ _ (Code.wp _ (Code.seq (Code.region 13 _ _) _) _) _ _)); first | first | refine cseq ?_ | refine rtext ?_ | refine cfalse rfl ?_ | refine cexit ?_ | refine jnil ?_ | (((show Jo _ (.binOp _ _ _ _ _); refine jy (ylss rfl rfl (by (exact decide_eq_false (by omega)))) rfl rfl ?_))))
    exact fin (hend (hj1 (Nat.le_refl _))) ⟨rfl, rfl, trivial⟩ rfl
set_option maxHeartbeats 2000000 in
theorem hlexT {Z X : Cx} {H : Hd} {G : Mem} {w : World} {m0 : Mem} (hZ : Z = X.sub 77 w) (hw : Cl X m0 w) (hX : Ok Z H) {S : Sec} {y : Lx} {q : RS} (hS : StOk Z H y q G) (hf : y.items.length < 999999999000) (hnl : y.name.size ≤ 4611686018427387904) (st : Value) (W gd : Nat) (hp1 : y.pos + 1 ≤ H.s.length)
    (hs1 : S.s1 = true → lex1 envT H.s y = none) (hs2 : S.s2 = true → (if dvOn true y then lex2 H.s y else none) = none) (hs3 : S.s2 = false → dvOn true y = true) :
    PJ Z ((codeOut Tryz.f76 5).wp Tryz.prog (bodyPost Tryz.prog Tryz.f76 fun e w' => ∃ (q' : RS) (W' : Nat), e = .returned (stV (lexR envT H.s true y).2) ∧ Cl X (cM H (lexR envT H.s true y).1 st W' gd q' (secD true H S) G) w' ∧ StOk X H (lexR envT H.s true y).1 q' G)) [(0, pS H), (1, fnV 45)] (cM H y st W gd q (secD true H S) G) := by
  have hend := fun h1 h2 => hlex_end (b := true) hZ hw hX (S := S) hS st W gd hp1 h1 h2
  subst hZ
  conv => arg 2; arg 2; whnf
  conv at hend => intro h1 h2; arg 2; arg 2; whnf
  repeat' (first | refine cseq ?_ | refine rtext ?_ | refine cblk ?_ | refine jnil ?_ | (first | refine jmv rfl rfl rfl ?_ | refine jy (ynil rfl) rfl rfl ?_ | (show Jo _ (.fieldAddr _ _ _); refine jy (yfield rfl fb136_2 rfl) rfl rfl ?_) | (show Jo _ (.load _ _); refine jy (yload (i := 5) rfl rfl rfl one3) rfl rfl ?_) | (show Jo _ (.call _); ((show Jo _ (.call ⟨.builtin .len, _, _⟩); refine jy (ylenl rfl und133) rfl rfl ?_)))))
  refine fin (f' := FX H S 2 0) (m' := cM H y st W gd q (secD true H S) G) (cloop (ι := Nat) (FX H S 2) (fun _ => cM H y st W gd q (secD true H S) G) (fun n j => n = 2 - j ∧ j ≤ 2 ∧ (1 ≤ j → lex1 envT H.s y = none) ∧ (2 ≤ j → (if dvOn true y then lex2 H.s y else none) = none)) 2 0 ⟨rfl, Nat.zero_le _, fun h => by omega, fun h => by omega⟩ ?_) ⟨rfl, rfl, rfl, rfl, rfl, trivial⟩ rfl
  rintro n j ⟨rfl, hj, hj1, hj2⟩ K hK
  match j, hj, hj1, hj2 with
  | 0, _, _, _ =>
    have hk := fun h => hK 1 1 (by omega) ⟨rfl, by omega, fun _ => h, fun h => by omega⟩
    have hiz : (⟨S.gh, 0, none⟩ : Addr).add (((0 : Nat) : Int).toNat * 1) = ⟨S.gh, 0, none⟩ := rfl
    rcases (Bool.eq_false_or_eq_true S.s1).symm with hv | hv
    · rcases lex1_cases (E := envT) (s := H.s) (x := y) with hl | hl | hl
      · have hczU := cz1n hX hS hf hnl (fnV 45) st W gd (F := secD true H S) hl
        repeat' (first | refine cfalse (congrArg (fun b => some (Value.bool b)) hv) ?_ | first | (show PJ _ (Code.wp _ _ _) _ _; first | refine cseq ?_ | refine rtext ?_ | refine ctrue rfl ?_ | refine cfalse rfl ?_ | refine cskip ?_ | refine cblk ?_ | (show PJ _ (Code.wp _ (Code.region 9 _ true) _) _ _; refine ranyT 9 [h1B H S] mixed ?_)) | refine tnorm ?_ | refine jnil ?_ | (first | refine jmv rfl rfl rfl ?_ | refine jy (ynil rfl) rfl rfl ?_ | (show Jo _ (.fieldAddr _ _ _); refine jy (yfield rfl fb136_1 rfl) rfl rfl ?_) | (show Jo _ (.load _ _); first | refine jy (yload (i := 6) rfl rfl rfl one3) rfl rfl ?_ | refine jy (yload (i := 7) rfl rfl rfl one3) rfl rfl ?_) | refine jas_ rfl rfl rfl ?_ | (show Jo _ (.binOp _ _ _ _ _); first | (show Jo (some 65) (.binOp .add _ _ _ _); (refine jy (yadd (c := ((1 : Nat) : Int)) rfl rfl (by rw [i64_in (by omega) (by omega)]; omega)) rfl rfl ?_)) | (show Jo (some 60) (.binOp .eql _ _ _ _); refine jy (yfe rfl rfl fn104 rfl) rfl rfl ?_) | refine jy (ylss rfl rfl (by (exact decide_eq_true (by omega)))) rfl rfl ?_) | (show Jo _ (.pick _ _ _); refine jy (ypick0 rfl rfl) rfl rfl ?_) | (show Jo _ (.call _); ((show Jo (some 56) (.call _); refine jcallC (k := 110) (us := []) (vs := [fnV 45, pL H]) (ι := Unit) _ rfl bo137 rfl rfl rfl hczU (fun _ _ => ?_)))) | (show Jo _ (.indexAddr 105 _ _); refine jy (yat rfl rfl und133 sz137 (by omega) (by omega) hiz) rfl rfl ?_)) | first | (show JT _ _ _ _ _ _ [] _ _; refine jtnil ?_) | (first | (show JTo _ (.move _); refine jty (ymove rfl) rfl rfl ?_) | (show JTo _ (.nilCheck _); refine jty (ynil rfl) rfl rfl ?_) | (show JTo _ (.fieldAddr _ _ _); refine jty (yfield rfl (by first | exact fb136_0 | exact fb142_3) rfl) rfl rfl ?_) | (show JTo _ (.load _ _); refine jty (yload (i := 0) rfl rfl rfl one3) rfl rfl ?_) | (show JTo _ (.assign _); refine jty (yassign rfl) rfl rfl ?_) | (show JTo _ (.extract _ _); refine jty (yextractL rfl rfl) rfl rfl ?_)) | first | (show PJ _ (WKeep _ _ _) _ _; refine jas (fun _ h => h.less (by repeat ((exact List.nil_sublist _)))) ?_) | (show PJ _ (WIf _ _ _) _ _; refine jaw ?_) | (show PJ _ (WAnyT _ _ _ _ _ _ _ _) _ _; first | refine jaqT (n := 9) (g' := 6) (D := []) [0, 1, 2, 3, 4, 5, 6, 7, 8] rfl (fun _ h => h.less (by repeat (first | exact List.nil_sublist _ | refine List.Sublist.cons_cons _ ?_ | refine List.Sublist.cons _ ?_))) (by kernel_rfl) (by kernel_rfl) (by kernel_rfl) (by kernel_rfl) (by kernel_rfl) rfl (fun _ d _ _ _ h => by cases d <;> exact h) rfl ?_ | refine jfullT (D := [0, 1, 2, 3, 4, 5, 6, 7, 8]) (by kernel_rfl) ?_) | (show PJ _ (WAny _ _ _ _ _ _ _) _ _; first | refine ja1 (g' := 5) (D := [0, 1, 2, 3, 4, 5, 6, 7, 8]) 9 rfl rfl (by kernel_rfl) rfl ?_ | refine jaq (g' := 0) (D := [0, 1, 2, 3, 4, 5, 6, 7, 8, 9]) [10, 11, 12, 13, 14] rfl (fun _ h => h.less (by repeat ((exact List.nil_sublist _)))) (by kernel_rfl) (by kernel_rfl) rfl (fun _ d _ _ _ h => by cases d <;> exact h) rfl ?_ | refine jadone rfl (by kernel_rfl) ?_))
        exact fin (hk hl) ⟨rfl, rfl, rfl, rfl, rfl, trivial⟩ rfl
      · have hcz := cz1 hX hS hf hnl (fnV 45) st W gd (F := secD true H S) hl
        rw [lexR_1 (dv := true) hl]
        repeat' (first | refine cfalse (congrArg (fun b => some (Value.bool b)) hv) ?_ | first | (show PJ _ (Code.wp _ _ _) _ _; first | refine cseq ?_ | refine rtext ?_ | refine ctrue rfl ?_ | refine cskip ?_ | refine cblk ?_ | refine cret ?_ | (show PJ _ (Code.wp _ (Code.region 9 _ true) _) _ _; refine ranyT 9 [h1B H S] mixed ?_)) | refine tret ?_ | refine bret ?_ | refine jnil ?_ | (first | refine js rfl rfl ?_ | refine jmv rfl rfl rfl ?_ | refine jy (ynil rfl) rfl rfl ?_ | (show Jo _ (.fieldAddr _ _ _); refine jy (yfield rfl fb136_1 rfl) rfl rfl ?_) | (show Jo _ (.load _ _); first | refine jy (yload (i := 6) rfl rfl rfl one3) rfl rfl ?_ | refine jy (yload (i := 7) rfl rfl rfl one3) rfl rfl ?_) | refine jas_ rfl rfl rfl ?_ | (show Jo _ (.binOp _ _ _ _ _); first | (show Jo (some 60) (.binOp .eql _ _ _ _); refine jy (yfe rfl rfl fn104 rfl) rfl rfl ?_) | refine jy (ylss rfl rfl (by (exact decide_eq_true (by omega)))) rfl rfl ?_) | (show Jo _ (.pick _ _ _); refine jy (ypick1 rfl rfl) rfl rfl ?_) | (show Jo _ (.call _); ((show Jo (some 56) (.call _); refine jcallC (k := 110) (us := []) (vs := [fnV 45, pL H]) (ι := RS) _ rfl bo137 rfl rfl rfl hcz (fun q1 hS1 => ?_)))) | (show Jo _ (.indexAddr 105 _ _); refine jy (yat rfl rfl und133 sz137 (by omega) (by omega) hiz) rfl rfl ?_)) | first | (show JT _ _ _ _ _ _ [] _ _; refine jtnil ?_) | (first | (show JTo _ (.move _); refine jty (ymove rfl) rfl rfl ?_) | (show JTo _ (.nilCheck _); refine jty (ynil rfl) rfl rfl ?_) | (show JTo _ (.fieldAddr _ _ _); refine jty (yfield rfl (by first | exact fb136_0 | exact fb142_3) rfl) rfl rfl ?_) | (show JTo _ (.load _ _); refine jty (yload (i := 0) rfl rfl rfl one3) rfl rfl ?_) | (show JTo _ (.assign _); refine jty (yassign rfl) rfl rfl ?_) | (show JTo _ (.extract _ _); refine jty (yextractL rfl rfl) rfl rfl ?_)) | first | (show PJ _ (WKeep _ _ _) _ _; refine jas (fun _ h => h.less (by repeat ((exact List.nil_sublist _)))) ?_) | (show PJ _ (WIf _ _ _) _ _; refine jaw ?_) | (show PJ _ (WAnyT _ _ _ _ _ _ _ _) _ _; first | refine jaqT (n := 9) (g' := 6) (D := []) [0, 1, 2, 3, 4, 5, 6, 7, 8] rfl (fun _ h => h.less (by repeat (first | exact List.nil_sublist _ | refine List.Sublist.cons_cons _ ?_ | refine List.Sublist.cons _ ?_))) (by kernel_rfl) (by kernel_rfl) (by kernel_rfl) (by kernel_rfl) (by kernel_rfl) rfl (fun _ d _ _ _ h => by cases d <;> exact h) rfl ?_ | refine jfullT (D := [0, 1, 2, 3, 4, 5, 6, 7, 8]) (by kernel_rfl) ?_) | (show PJ _ (WAny _ _ _ _ _ _ _) _ _; first | refine ja1 (g' := 5) (D := [0, 1, 2, 3, 4, 5, 6, 7, 8]) 9 rfl rfl (by kernel_rfl) rfl ?_ | refine jaq (g' := 0) (D := [0, 1, 2, 3, 4, 5, 6, 7, 8, 9]) [10, 11, 12, 13, 14] rfl (fun _ h => h.less (by repeat ((exact List.nil_sublist _)))) (by kernel_rfl) (by kernel_rfl) rfl (fun _ d _ _ _ h => by cases d <;> exact h) rfl ?_ | refine jadone rfl (by kernel_rfl) ?_))
        exact ret1 rfl rfl rfl (fun w' hw' => ⟨q1, W, rfl, hw.up hw', StOk.up hw hS1⟩)
      · have hcz := cz1 hX hS hf hnl (fnV 45) st W gd (F := secD true H S) hl
        rw [lexR_1 (dv := true) hl]
        repeat' (first | refine cfalse (congrArg (fun b => some (Value.bool b)) hv) ?_ | first | (show PJ _ (Code.wp _ _ _) _ _; first | refine cseq ?_ | refine rtext ?_ | refine ctrue rfl ?_ | refine cskip ?_ | refine cblk ?_ | refine cret ?_ | (show PJ _ (Code.wp _ (Code.region 9 _ true) _) _ _; refine ranyT 9 [h1B H S] mixed ?_)) | refine tret ?_ | refine bret ?_ | refine jnil ?_ | (first | refine jmv rfl rfl rfl ?_ | refine jy (ynil rfl) rfl rfl ?_ | (show Jo _ (.fieldAddr _ _ _); refine jy (yfield rfl fb136_1 rfl) rfl rfl ?_) | (show Jo _ (.load _ _); first | refine jy (yload (i := 6) rfl rfl rfl one3) rfl rfl ?_ | refine jy (yload (i := 7) rfl rfl rfl one3) rfl rfl ?_) | refine jas_ rfl rfl rfl ?_ | (show Jo _ (.binOp _ _ _ _ _); first | (show Jo (some 60) (.binOp .eql _ _ _ _); refine jy (yfe rfl rfl fn104 rfl) rfl rfl ?_) | refine jy (ylss rfl rfl (by (exact decide_eq_true (by omega)))) rfl rfl ?_) | (show Jo _ (.pick _ _ _); refine jy (ypick0 rfl rfl) rfl rfl ?_) | (show Jo _ (.call _); ((show Jo (some 56) (.call _); refine jcallC (k := 110) (us := []) (vs := [fnV 45, pL H]) (ι := RS) _ rfl bo137 rfl rfl rfl hcz (fun q1 hS1 => ?_)))) | (show Jo _ (.indexAddr 105 _ _); refine jy (yat rfl rfl und133 sz137 (by omega) (by omega) hiz) rfl rfl ?_)) | first | (show JT _ _ _ _ _ _ [] _ _; refine jtnil ?_) | (first | (show JTo _ (.move _); refine jty (ymove rfl) rfl rfl ?_) | (show JTo _ (.nilCheck _); refine jty (ynil rfl) rfl rfl ?_) | (show JTo _ (.fieldAddr _ _ _); refine jty (yfield rfl (by first | exact fb136_0 | exact fb142_3) rfl) rfl rfl ?_) | (show JTo _ (.load _ _); refine jty (yload (i := 0) rfl rfl rfl one3) rfl rfl ?_) | (show JTo _ (.assign _); refine jty (yassign rfl) rfl rfl ?_) | (show JTo _ (.extract _ _); refine jty (yextractL rfl rfl) rfl rfl ?_)) | first | (show PJ _ (WKeep _ _ _) _ _; refine jas (fun _ h => h.less (by repeat ((exact List.nil_sublist _)))) ?_) | (show PJ _ (WIf _ _ _) _ _; refine jaw ?_) | (show PJ _ (WAnyT _ _ _ _ _ _ _ _) _ _; first | refine jaqT (n := 9) (g' := 6) (D := []) [0, 1, 2, 3, 4, 5, 6, 7, 8] rfl (fun _ h => h.less (by repeat (first | exact List.nil_sublist _ | refine List.Sublist.cons_cons _ ?_ | refine List.Sublist.cons _ ?_))) (by kernel_rfl) (by kernel_rfl) (by kernel_rfl) (by kernel_rfl) (by kernel_rfl) rfl (fun _ d _ _ _ h => by cases d <;> exact h) rfl ?_ | refine jfullT (D := [0, 1, 2, 3, 4, 5, 6, 7, 8]) (by kernel_rfl) ?_) | (show PJ _ (WAny _ _ _ _ _ _ _) _ _; first | refine ja1 (g' := 5) (D := [0, 1, 2, 3, 4, 5, 6, 7, 8]) 9 rfl rfl (by kernel_rfl) rfl ?_ | refine jaq (g' := 0) (D := [0, 1, 2, 3, 4, 5, 6, 7, 8, 9]) [10, 11, 12, 13, 14] rfl (fun _ h => h.less (by repeat ((exact List.nil_sublist _)))) (by kernel_rfl) (by kernel_rfl) rfl (fun _ d _ _ _ h => by cases d <;> exact h) rfl ?_ | refine jadone rfl (by kernel_rfl) ?_))
        exact ret1 rfl rfl rfl (fun w' hw' => ⟨q1, W, rfl, hw.up hw', StOk.up hw hS1⟩)
    · have hl := hs1 hv
      repeat' (first | refine ctrue (congrArg (fun b => some (Value.bool b)) hv) ?_ | first | refine cseq ?_ | refine rtext ?_ | refine ctrue rfl ?_ | refine cskip ?_ | refine cblk ?_ | refine cexit ?_ | refine tnorm ?_ | refine jnil ?_ | (first | refine jmv rfl rfl rfl ?_ | refine jy (ynil rfl) rfl rfl ?_ | (show Jo _ (.fieldAddr _ _ _); refine jy (yfield rfl fb136_1 rfl) rfl rfl ?_) | (show Jo _ (.load _ _); first | refine jy (yload (i := 6) rfl rfl rfl one3) rfl rfl ?_ | refine jy (yload (i := 7) rfl rfl rfl one3) rfl rfl ?_) | refine jas_ rfl rfl rfl ?_ | (show Jo _ (.binOp _ _ _ _ _); first | (show Jo (some 65) (.binOp .add _ _ _ _); (refine jy (yadd (c := ((1 : Nat) : Int)) rfl rfl (by rw [i64_in (by omega) (by omega)]; omega)) rfl rfl ?_)) | refine jy (ylss rfl rfl (by (exact decide_eq_true (by omega)))) rfl rfl ?_) | (show Jo _ (.indexAddr 105 _ _); refine jy (yat rfl rfl und133 sz137 (by omega) (by omega) hiz) rfl rfl ?_)))
      exact fin (hk hl) ⟨rfl, rfl, rfl, rfl, rfl, trivial⟩ rfl
  | 1, _, hj1, _ =>
    have hl := hj1 (Nat.le_refl _)
    have hk := fun h => hK 0 2 (by omega) ⟨rfl, by omega, fun _ => hl, fun _ => h⟩
    have hiz : (⟨S.gh, 0, none⟩ : Addr).add (((1 : Nat) : Int).toNat * 1) = ⟨S.gh, 1, none⟩ := rfl
    rcases (Bool.eq_false_or_eq_true S.s2).symm with hv | hv
    · have hd := hs3 hv
      cases hl2 : lex2 H.s y with
      | none =>
        have hczU := cz2n hX hS hf (fnV 45) st W gd (F := secD true H S) hl2
        repeat' (first | refine cfalse (congrArg (fun b => some (Value.bool b)) hv) ?_ | first | (show PJ _ (Code.wp _ _ _) _ _; first | refine cseq ?_ | refine rtext ?_ | refine ctrue rfl ?_ | refine cfalse rfl ?_ | refine cskip ?_ | refine cblk ?_ | (show PJ _ (Code.wp _ (Code.region 9 _ true) _) _ _; refine ranyT 9 [h2B H S] mixed ?_)) | refine tnorm ?_ | refine jnil ?_ | (first | refine jmv rfl rfl rfl ?_ | refine jy (ynil rfl) rfl rfl ?_ | (show Jo _ (.fieldAddr _ _ _); refine jy (yfield rfl fb136_1 rfl) rfl rfl ?_) | (show Jo _ (.load _ _); first | refine jy (yload (i := 6) rfl rfl rfl one3) rfl rfl ?_ | refine jy (yload (i := 9) rfl rfl rfl one3) rfl rfl ?_) | refine jas_ rfl rfl rfl ?_ | (show Jo _ (.binOp _ _ _ _ _); first | (show Jo (some 65) (.binOp .add _ _ _ _); (refine jy (yadd (c := ((2 : Nat) : Int)) rfl rfl (by rw [i64_in (by omega) (by omega)]; omega)) rfl rfl ?_)) | (show Jo (some 60) (.binOp .eql _ _ _ _); refine jy (yfe rfl rfl fn104 rfl) rfl rfl ?_) | refine jy (ylss rfl rfl (by (exact decide_eq_true (by omega)))) rfl rfl ?_) | (show Jo _ (.pick _ _ _); refine jy (ypick0 rfl rfl) rfl rfl ?_) | (show Jo _ (.call _); ((show Jo (some 56) (.call _); refine jcallC (k := 116) (us := []) (vs := [fnV 45, pL H]) (ι := Unit) _ rfl bo143 rfl rfl rfl hczU (fun _ _ => ?_)))) | (show Jo _ (.indexAddr 105 _ _); refine jy (yat rfl rfl und133 sz137 (by omega) (by omega) hiz) rfl rfl ?_)) | first | (show JT _ _ _ _ _ _ [] _ _; refine jtnil ?_) | (first | (show JTo _ (.move _); refine jty (ymove rfl) rfl rfl ?_) | (show JTo _ (.nilCheck _); refine jty (ynil rfl) rfl rfl ?_) | (show JTo _ (.fieldAddr _ _ _); refine jty (yfield rfl (by first | exact fb136_0 | exact fb142_3) rfl) rfl rfl ?_) | (show JTo _ (.load _ _); refine jty (yload (i := 0) rfl rfl rfl one3) rfl rfl ?_) | (show JTo _ (.assign _); refine jty (yassign rfl) rfl rfl ?_) | (show JTo _ (.extract _ _); refine jty (yextractL rfl rfl) rfl rfl ?_)) | first | (show PJ _ (WKeep _ _ _) _ _; refine jas (fun _ h => h.less (by repeat ((exact List.nil_sublist _)))) ?_) | (show PJ _ (WIf _ _ _) _ _; refine jaw ?_) | (show PJ _ (WAnyT _ _ _ _ _ _ _ _) _ _; first | refine jaqT (n := 9) (g' := 6) (D := []) [0, 1, 2, 3, 4, 5, 6, 7, 8] rfl (fun _ h => h.less (by repeat (first | exact List.nil_sublist _ | refine List.Sublist.cons_cons _ ?_ | refine List.Sublist.cons _ ?_))) (by kernel_rfl) (by kernel_rfl) (by kernel_rfl) (by kernel_rfl) (by kernel_rfl) rfl (fun _ d _ _ _ h => by cases d <;> exact h) rfl ?_ | refine jfullT (D := [0, 1, 2, 3, 4, 5, 6, 7, 8]) (by kernel_rfl) ?_) | (show PJ _ (WAny _ _ _ _ _ _ _) _ _; first | refine ja1 (g' := 5) (D := [0, 1, 2, 3, 4, 5, 6, 7, 8]) 9 rfl rfl (by kernel_rfl) rfl ?_ | refine jaq (g' := 0) (D := [0, 1, 2, 3, 4, 5, 6, 7, 8, 9]) [10, 11, 12, 13, 14] rfl (fun _ h => h.less (by repeat ((exact List.nil_sublist _)))) (by kernel_rfl) (by kernel_rfl) rfl (fun _ d _ _ _ h => by cases d <;> exact h) rfl ?_ | refine jadone rfl (by kernel_rfl) ?_))
        exact fin (hk (by rw [if_pos hd]; exact hl2)) ⟨rfl, rfl, rfl, rfl, rfl, trivial⟩ rfl
      | some y' =>
        have hcz := cz2 hX hS hf (fnV 45) st W gd (F := secD true H S) hl2
        rw [lexR_2 hl hd hl2]
        repeat' (first | refine cfalse (congrArg (fun b => some (Value.bool b)) hv) ?_ | first | (show PJ _ (Code.wp _ _ _) _ _; first | refine cseq ?_ | refine rtext ?_ | refine ctrue rfl ?_ | refine cskip ?_ | refine cblk ?_ | refine cret ?_ | (show PJ _ (Code.wp _ (Code.region 9 _ true) _) _ _; refine ranyT 9 [h2B H S] mixed ?_)) | refine tret ?_ | refine bret ?_ | refine jnil ?_ | (first | refine jmv rfl rfl rfl ?_ | refine jy (ynil rfl) rfl rfl ?_ | (show Jo _ (.fieldAddr _ _ _); refine jy (yfield rfl fb136_1 rfl) rfl rfl ?_) | (show Jo _ (.load _ _); first | refine jy (yload (i := 6) rfl rfl rfl one3) rfl rfl ?_ | refine jy (yload (i := 9) rfl rfl rfl one3) rfl rfl ?_) | refine jas_ rfl rfl rfl ?_ | (show Jo _ (.binOp _ _ _ _ _); first | (show Jo (some 60) (.binOp .eql _ _ _ _); refine jy (yfe rfl rfl fn104 rfl) rfl rfl ?_) | refine jy (ylss rfl rfl (by (exact decide_eq_true (by omega)))) rfl rfl ?_) | (show Jo _ (.pick _ _ _); refine jy (ypick0 rfl rfl) rfl rfl ?_) | (show Jo _ (.call _); ((show Jo (some 56) (.call _); refine jcallC (k := 116) (us := []) (vs := [fnV 45, pL H]) (ι := RS × Nat) _ rfl bo143 rfl rfl rfl hcz (fun q1 hS1 => ?_)))) | (show Jo _ (.indexAddr 105 _ _); refine jy (yat rfl rfl und133 sz137 (by omega) (by omega) hiz) rfl rfl ?_)) | first | (show JT _ _ _ _ _ _ [] _ _; refine jtnil ?_) | (first | (show JTo _ (.move _); refine jty (ymove rfl) rfl rfl ?_) | (show JTo _ (.nilCheck _); refine jty (ynil rfl) rfl rfl ?_) | (show JTo _ (.fieldAddr _ _ _); refine jty (yfield rfl (by first | exact fb136_0 | exact fb142_3) rfl) rfl rfl ?_) | (show JTo _ (.load _ _); refine jty (yload (i := 0) rfl rfl rfl one3) rfl rfl ?_) | (show JTo _ (.assign _); refine jty (yassign rfl) rfl rfl ?_) | (show JTo _ (.extract _ _); refine jty (yextractL rfl rfl) rfl rfl ?_)) | first | (show PJ _ (WKeep _ _ _) _ _; refine jas (fun _ h => h.less (by repeat ((exact List.nil_sublist _)))) ?_) | (show PJ _ (WIf _ _ _) _ _; refine jaw ?_) | (show PJ _ (WAnyT _ _ _ _ _ _ _ _) _ _; first | refine jaqT (n := 9) (g' := 6) (D := []) [0, 1, 2, 3, 4, 5, 6, 7, 8] rfl (fun _ h => h.less (by repeat (first | exact List.nil_sublist _ | refine List.Sublist.cons_cons _ ?_ | refine List.Sublist.cons _ ?_))) (by kernel_rfl) (by kernel_rfl) (by kernel_rfl) (by kernel_rfl) (by kernel_rfl) rfl (fun _ d _ _ _ h => by cases d <;> exact h) rfl ?_ | refine jfullT (D := [0, 1, 2, 3, 4, 5, 6, 7, 8]) (by kernel_rfl) ?_) | (show PJ _ (WAny _ _ _ _ _ _ _) _ _; first | refine ja1 (g' := 5) (D := [0, 1, 2, 3, 4, 5, 6, 7, 8]) 9 rfl rfl (by kernel_rfl) rfl ?_ | refine jaq (g' := 0) (D := [0, 1, 2, 3, 4, 5, 6, 7, 8, 9]) [10, 11, 12, 13, 14] rfl (fun _ h => h.less (by repeat ((exact List.nil_sublist _)))) (by kernel_rfl) (by kernel_rfl) rfl (fun _ d _ _ _ h => by cases d <;> exact h) rfl ?_ | refine jadone rfl (by kernel_rfl) ?_))
        exact ret1 rfl rfl rfl (fun w' hw' => ⟨q1.1, q1.2, rfl, hw.up hw', StOk.up hw hS1⟩)
    · have hl := hs2 hv
      repeat' (first | refine ctrue (congrArg (fun b => some (Value.bool b)) hv) ?_ | first | refine cseq ?_ | refine rtext ?_ | refine ctrue rfl ?_ | refine cskip ?_ | refine cblk ?_ | refine cexit ?_ | refine tnorm ?_ | refine jnil ?_ | (first | refine jmv rfl rfl rfl ?_ | refine jy (ynil rfl) rfl rfl ?_ | (show Jo _ (.fieldAddr _ _ _); refine jy (yfield rfl fb136_1 rfl) rfl rfl ?_) | (show Jo _ (.load _ _); first | refine jy (yload (i := 6) rfl rfl rfl one3) rfl rfl ?_ | refine jy (yload (i := 9) rfl rfl rfl one3) rfl rfl ?_) | refine jas_ rfl rfl rfl ?_ | (show Jo _ (.binOp _ _ _ _ _); first | (show Jo (some 65) (.binOp .add _ _ _ _); (refine jy (yadd (c := ((2 : Nat) : Int)) rfl rfl (by rw [i64_in (by omega) (by omega)]; omega)) rfl rfl ?_)) | refine jy (ylss rfl rfl (by (exact decide_eq_true (by omega)))) rfl rfl ?_) | (show Jo _ (.indexAddr 105 _ _); refine jy (yat rfl rfl und133 sz137 (by omega) (by omega) hiz) rfl rfl ?_)))
      exact fin (hk hl) ⟨rfl, rfl, rfl, rfl, rfl, trivial⟩ rfl
  | 2, _, hj1, hj2 =>
    repeat' ((fail_if_success (show PJ _ (Code.wp _ (Code.seq (Code.region 13 _ _) _) _) _ _)); first | first | refine cseq ?_ | refine rtext ?_ | refine cfalse rfl ?_ | refine cexit ?_ | refine jnil ?_ | (((show Jo _ (.binOp _ _ _ _ _); refine jy (ylss rfl rfl (by (exact decide_eq_false (by omega)))) rfl rfl ?_))))
    exact fin (hend (hj1 (by omega)) (hj2 (Nat.le_refl _))) ⟨rfl, rfl, trivial⟩ rfl
theorem bo68 : bodyB Tryz.prog 45 = true := by kernel_rfl
theorem SecOk.fwd {s : T} {x y : Lx} {S : Sec} (h : SecOk s x S) (hp : x.pos ≤ y.pos) (ho : y.org = x.org) (hc : x.chk = true → y.chk = true) : SecOk s y S := by
  have e : s.drop y.pos = (s.drop x.pos).drop (y.pos - x.pos) := by rw [List.drop_drop, show x.pos + (y.pos - x.pos) = y.pos by omega]
  have hL : idx lsc (s.drop x.pos) = none → idx lsc (s.drop y.pos) = none := fun h => by rw [e]; exact idx_drop (by decide) _ _ h
  have hD : idxD s x = none → idxD s y = none := fun h => by
    unfold idxD at h ⊢
    rw [ho, e]
    by_cases hx : x.chk = true
    · rw [if_pos (hc hx)]
    · rw [if_neg hx] at h
      split
      · rfl
      · exact idx_drop (by cases x.org <;> decide) _ _ h
  refine ⟨fun h1 => ?_, fun h1 => hL (h.a1 h1), fun h0 h1 => hD (h.a2 h0 h1), h.kc, h.kl⟩
  have := h.al h1
  rw [found_eq] at this ⊢
  have hm : ∀ a b : Option Nat, mn a b = none → a = none ∧ b = none := by
    intro a b h
    cases a <;> cases b <;> first | exact ⟨rfl, rfl⟩ | cases h
  obtain ⟨h2, h3⟩ := hm _ _ this
  rw [hL h2]
  cases hd : S.dv
  · rfl
  · rw [hd, if_pos rfl] at h3
    rw [if_pos rfl, hD h3]
    rfl
theorem SecR.may {X : Cx} {H : Hd} {S S' : Sec} (h : SecR S S') (hm : SecMay X H S) : SecMay X H S' := ⟨hm.s, h.g1 ▸ hm.m1, h.g2 ▸ hm.m2, h.gk ▸ hm.my, by rw [h.kl, h.kc]; exact hm.kl, by rw [h.kc]; exact hm.kx⟩
theorem nilF_stV (u : Option St) : nilF (stV u) = some u.isNone := by cases u <;> rfl
theorem idx_pre {p : T} : ∀ {l : T} {k : Nat}, idx p l = some k → p.isPrefixOf (l.drop k) = true := by
  intro l
  induction l with
  | nil =>
    intro k h
    unfold idx at h
    split at h
    · rename_i hp
      cases h
      rw [hp]
      rfl
    · cases h
  | cons c r ih =>
    intro k h
    unfold idx at h
    split at h
    · rename_i hp
      cases h
      exact hp
    · cases hr : idx p r with
      | none => rw [hr] at h; cases h
      | some j =>
        rw [hr] at h
        obtain rfl : j + 1 = k := by simpa using h
        exact ih hr
theorem pre_drop_len {p l : T} {n : Nat} (hp : p ≠ []) (h : p.isPrefixOf (l.drop n) = true) : n + 1 ≤ l.length := by
  have := pre_len h
  have h0 := List.length_pos_iff.2 hp
  rw [List.length_drop] at this
  omega
def atP (s : T) (x : Lx) : Lx := if x.start < x.pos then emitT s x else x
theorem hs1_of {E : Env} {s : T} {y : Lx} (h : (lmd.isPrefixOf (s.drop y.pos) || lno.isPrefixOf (s.drop y.pos)) = false) : lex1 E s y = none := by unfold lex1; rw [h]; rfl
theorem hs2_of {s : T} {y : Lx} (h : dvOn true y = true → (divr y.org).isPrefixOf (s.drop y.pos) = false) : (if dvOn true y then lex2 s y else none) = none := by
  split
  · rename_i hd
    unfold lex2
    rw [h hd]
    rfl
  · rfl
set_option maxHeartbeats 2000000 in
theorem hlexF_calls {X : Cx} {H : Hd} {G : Mem} (hX : Ok X H) {S : Sec} (hal : S.all = false) {x : Lx} {q : RS} (hS : StOk X H x q G) (hf : x.items.length < 999999998000) (hnl : x.name.size ≤ 4611686018427387904) (st : Value) (W gd : Nat) (hp1 : x.pos + 1 ≤ H.s.length)
    (hs1 : S.s1 = true → (lmd.isPrefixOf (H.s.drop x.pos) || lno.isPrefixOf (H.s.drop x.pos)) = false) :
    ∀ w, Cl X (cM H x st W gd q (secD false H S) G) w → Calls Tryz.prog 76 #[pS H, fnV 45] w fun e w' => ∃ (q' : RS) (W' : Nat), e = .returned (stV (lexR envT H.s false (atP H.s x)).2) ∧ Cl X (cM H (lexR envT H.s false (atP H.s x)).1 st W' gd q' (secD false H S) G) w' ∧ StOk X H (lexR envT H.s false (atP H.s x)).1 q' G := by
  intro w hw
  refine enterC 77 hw Tryz.func76 rfl rfl (vs := [pS H, fnV 45]) rfl ?_
  replace hX := hX.sub hw 77
  replace hS := hS.sub 77 w
  conv => arg 2; arg 2; whnf
  by_cases hlt : x.start < x.pos
  · have e1 : atP H.s x = emitL H.s 18 x := by unfold atP; rw [if_pos hlt]; rfl
    rw [e1]
    have hle := emI_len (s := H.s) (t := 18) (a := x.start) (b := x.pos)
    have hfe : (emitL H.s 18 x).items.length < 999999999000 := by simp only [emitL, List.length_append]; omega
    repeat' ((fail_if_success (show PJ _ (Code.wp _ (Code.seq (Code.seq (Code.region 5 _ _) _) _) _) _ _)); first | refine cfalse (congrArg (fun b => some (Value.bool b)) hal) ?_ | first | (show PJ _ (Code.wp _ _ _) _ _; first | refine cseq ?_ | refine rtext ?_ | refine ctrue rfl ?_ | refine cskip ?_ | refine rquiet mixed (by kernel_rfl) ?_) | refine jnil ?_ | (first | refine jmv rfl rfl rfl ?_ | refine jy (ynil rfl) rfl rfl ?_ | (show Jo _ (.fieldAddr _ _ _); refine jy (yfield rfl (by first | exact fb136_0 | exact fb136_1 | exact fb110_3 | exact fb110_4) rfl) rfl rfl ?_) | (show Jo _ (.load _ _); first | refine jy (yload (i := 0) rfl rfl rfl one3) rfl rfl ?_ | refine jy (yload (i := 5) rfl rfl rfl one3) rfl rfl ?_) | refine jas_ rfl rfl rfl ?_ | (show Jo _ (.binOp _ _ _ _ _); (refine jy (ygtr rfl rfl (by (exact decide_eq_true (by (try dsimp only [lsOf, emitL]); omega)))) rfl rfl ?_)) | (show Jo _ (.call _); ((show Jo (some 32) (.call _); refine jcall (ι := RS) (vs := [pL H, .int .i64 (18 : Nat)]) (v := fun _ => .tuple #[]) (m' := fun q' => cM H (emitL H.s 18 x) st W gd q' (secD false H S) G) (fun q' => StOk _ H (emitL H.s 18 x) q' G) bo116 rfl rfl rfl (emit_st hX hS st _ W (by omega) 18) (fun q1 hS1 => ?_))))))
    exact fin (hlexF rfl hw hX hS1 hfe hnl st W gd hp1 (fun h => hs1_of (y := emitL H.s 18 x) (hs1 h))) ⟨rfl, rfl, trivial⟩ rfl
  · have e1 : atP H.s x = x := by unfold atP; rw [if_neg hlt]
    rw [e1]
    repeat' ((fail_if_success (show PJ _ (Code.wp _ (Code.seq (Code.seq (Code.region 5 _ _) _) _) _) _ _)); first | refine cfalse (congrArg (fun b => some (Value.bool b)) hal) ?_ | first | (show PJ _ (Code.wp _ _ _) _ _; first | refine cseq ?_ | refine rtext ?_ | refine cfalse rfl ?_ | refine cskip ?_ | refine rquiet mixed (by kernel_rfl) ?_) | refine jnil ?_ | (first | refine jmv rfl rfl rfl ?_ | refine jy (ynil rfl) rfl rfl ?_ | (show Jo _ (.fieldAddr _ _ _); refine jy (yfield rfl (by first | exact fb136_0 | exact fb136_1 | exact fb110_3 | exact fb110_4) rfl) rfl rfl ?_) | (show Jo _ (.load _ _); first | refine jy (yload (i := 0) rfl rfl rfl one3) rfl rfl ?_ | refine jy (yload (i := 5) rfl rfl rfl one3) rfl rfl ?_) | refine jas_ rfl rfl rfl ?_ | (show Jo _ (.binOp _ _ _ _ _); (refine jy (ygtr rfl rfl (by (exact decide_eq_false (by (try dsimp only [lsOf, emitL]); omega)))) rfl rfl ?_))))
    exact fin (hlexF rfl hw hX hS (by omega) hnl st W gd hp1 (fun h => hs1_of (hs1 h))) ⟨rfl, rfl, trivial⟩ rfl
set_option maxHeartbeats 2000000 in
theorem hlexT_calls {X : Cx} {H : Hd} {G : Mem} (hX : Ok X H) {S : Sec} (hal : S.all = false) {x : Lx} {q : RS} (hS : StOk X H x q G) (hf : x.items.length < 999999998000) (hnl : x.name.size ≤ 4611686018427387904) (st : Value) (W gd : Nat) (hp1 : x.pos + 1 ≤ H.s.length)
    (hs1 : S.s1 = true → (lmd.isPrefixOf (H.s.drop x.pos) || lno.isPrefixOf (H.s.drop x.pos)) = false) (hs2 : S.s2 = true → dvOn true x = true → (divr x.org).isPrefixOf (H.s.drop x.pos) = false) (hs3 : S.s2 = false → x.chk = false) :
    ∀ w, Cl X (cM H x st W gd q (secD true H S) G) w → Calls Tryz.prog 76 #[pS H, fnV 45] w fun e w' => ∃ (q' : RS) (W' : Nat), e = .returned (stV (lexR envT H.s true (atP H.s x)).2) ∧ Cl X (cM H (lexR envT H.s true (atP H.s x)).1 st W' gd q' (secD true H S) G) w' ∧ StOk X H (lexR envT H.s true (atP H.s x)).1 q' G := by
  intro w hw
  have hs2' : ∀ z : Lx, z.chk = x.chk → z.org = x.org → z.pos = x.pos → S.s2 = true → (if dvOn true z then lex2 H.s z else none) = none := fun z h1 h2 h3 h => hs2_of fun hd => by
    rw [h2, h3]
    exact hs2 h (by unfold dvOn at hd ⊢; rw [← h1]; exact hd)
  have hs3' : ∀ z : Lx, z.chk = x.chk → S.s2 = false → dvOn true z = true := fun z h1 h => by unfold dvOn; rw [h1, hs3 h]; rfl
  refine enterC 77 hw Tryz.func76 rfl rfl (vs := [pS H, fnV 45]) rfl ?_
  replace hX := hX.sub hw 77
  replace hS := hS.sub 77 w
  conv => arg 2; arg 2; whnf
  by_cases hlt : x.start < x.pos
  · have e1 : atP H.s x = emitL H.s 18 x := by unfold atP; rw [if_pos hlt]; rfl
    rw [e1]
    have hle := emI_len (s := H.s) (t := 18) (a := x.start) (b := x.pos)
    have hfe : (emitL H.s 18 x).items.length < 999999999000 := by simp only [emitL, List.length_append]; omega
    repeat' ((fail_if_success (show PJ _ (Code.wp _ (Code.seq (Code.seq (Code.region 5 _ _) _) _) _) _ _)); first | refine cfalse (congrArg (fun b => some (Value.bool b)) hal) ?_ | first | (show PJ _ (Code.wp _ _ _) _ _; first | refine cseq ?_ | refine rtext ?_ | refine ctrue rfl ?_ | refine cskip ?_ | refine rquiet mixed (by kernel_rfl) ?_) | refine jnil ?_ | (first | refine jmv rfl rfl rfl ?_ | refine jy (ynil rfl) rfl rfl ?_ | (show Jo _ (.fieldAddr _ _ _); refine jy (yfield rfl (by first | exact fb136_0 | exact fb136_1 | exact fb110_3 | exact fb110_4) rfl) rfl rfl ?_) | (show Jo _ (.load _ _); first | refine jy (yload (i := 0) rfl rfl rfl one3) rfl rfl ?_ | refine jy (yload (i := 5) rfl rfl rfl one3) rfl rfl ?_) | refine jas_ rfl rfl rfl ?_ | (show Jo _ (.binOp _ _ _ _ _); (refine jy (ygtr rfl rfl (by (exact decide_eq_true (by (try dsimp only [lsOf, emitL]); omega)))) rfl rfl ?_)) | (show Jo _ (.call _); ((show Jo (some 32) (.call _); refine jcall (ι := RS) (vs := [pL H, .int .i64 (18 : Nat)]) (v := fun _ => .tuple #[]) (m' := fun q' => cM H (emitL H.s 18 x) st W gd q' (secD true H S) G) (fun q' => StOk _ H (emitL H.s 18 x) q' G) bo116 rfl rfl rfl (emit_st hX hS st _ W (by omega) 18) (fun q1 hS1 => ?_))))))
    exact fin (hlexT rfl hw hX hS1 hfe hnl st W gd hp1 (fun h => hs1_of (y := emitL H.s 18 x) (hs1 h)) (hs2' (emitL H.s 18 x) rfl rfl rfl) (hs3' (emitL H.s 18 x) rfl)) ⟨rfl, rfl, trivial⟩ rfl
  · have e1 : atP H.s x = x := by unfold atP; rw [if_neg hlt]
    rw [e1]
    repeat' ((fail_if_success (show PJ _ (Code.wp _ (Code.seq (Code.seq (Code.region 5 _ _) _) _) _) _ _)); first | refine cfalse (congrArg (fun b => some (Value.bool b)) hal) ?_ | first | (show PJ _ (Code.wp _ _ _) _ _; first | refine cseq ?_ | refine rtext ?_ | refine cfalse rfl ?_ | refine cskip ?_ | refine rquiet mixed (by kernel_rfl) ?_) | refine jnil ?_ | (first | refine jmv rfl rfl rfl ?_ | refine jy (ynil rfl) rfl rfl ?_ | (show Jo _ (.fieldAddr _ _ _); refine jy (yfield rfl (by first | exact fb136_0 | exact fb136_1 | exact fb110_3 | exact fb110_4) rfl) rfl rfl ?_) | (show Jo _ (.load _ _); first | refine jy (yload (i := 0) rfl rfl rfl one3) rfl rfl ?_ | refine jy (yload (i := 5) rfl rfl rfl one3) rfl rfl ?_) | refine jas_ rfl rfl rfl ?_ | (show Jo _ (.binOp _ _ _ _ _); (refine jy (ygtr rfl rfl (by (exact decide_eq_false (by (try dsimp only [lsOf, emitL]); omega)))) rfl rfl ?_))))
    exact fin (hlexT rfl hw hX hS (by omega) hnl st W gd hp1 (fun h => hs1_of (hs1 h)) (hs2' x rfl rfl rfl) (hs3' x rfl)) ⟨rfl, rfl, trivial⟩ rfl
theorem idx_cons_pre {p l : T} (hp : p.isPrefixOf l = true) : idx p l = some 0 := by
  cases l with
  | nil =>
    cases p with
    | nil => rfl
    | cons c r => cases hp
  | cons c r => unfold idx; rw [if_pos hp]
theorem noPre {l : T} (h : idx lsc l = none) : (lmd.isPrefixOf l || lno.isPrefixOf l) = false := by
  rcases (Bool.eq_false_or_eq_true (lmd.isPrefixOf l || lno.isPrefixOf l)).symm with hb | hb
  · exact hb
  · have : lsc.isPrefixOf l = true := by
      rw [Bool.or_eq_true] at hb
      have e : ∀ c, List.isPrefixOf ([123, 123, c] : T) l = true → lsc.isPrefixOf l = true := fun c hc => by
        rw [List.isPrefixOf_iff_prefix] at hc ⊢
        obtain ⟨t, rfl⟩ := hc
        exact ⟨c :: t, rfl⟩
      rcases hb with hb | hb
      · exact e _ hb
      · exact e _ hb
    rw [idx_cons_pre this] at h
    cases h
theorem found_pos {s : T} {dv : Bool} {x : Lx} {k : Nat} (h : found s dv x = some k) : x.pos + k + 1 ≤ s.length := by
  have hp : ∀ {p : T}, p ≠ [] → idx p (s.drop x.pos) = some k → x.pos + k + 1 ≤ s.length := fun h0 h => by
    have := idx_pre h
    rw [List.drop_drop] at this
    exact pre_drop_len h0 this
  rw [found_eq] at h
  have hm : ∀ a b : Option Nat, mn a b = some k → a = some k ∨ b = some k := by
    intro a b h
    cases a <;> cases b
    · cases h
    · exact .inr h
    · exact .inl h
    · rename_i u v
      have : min u v = k := by simpa [mn] using h
      rcases Nat.le_total u v with h1 | h1
      · exact .inl (by rw [Nat.min_eq_left h1] at this; rw [this])
      · exact .inr (by rw [Nat.min_eq_right h1] at this; rw [this])
  rcases hm _ _ h with h1 | h1
  · exact hp (by decide) h1
  · split at h1
    · unfold idxD at h1
      split at h1
      · cases h1
      · exact hp (by cases x.org <;> decide) h1
    · cases h1
theorem hlex_calls {X : Cx} {H : Hd} {G : Mem} (hX : Ok X H) {S : Sec} (hal : S.all = false) {x : Lx} {q : RS} (hS : StOk X H x q G) (hf : x.items.length < 999999998000) (hnl : x.name.size ≤ 4611686018427387904) (st : Value) (W gd : Nat) (hp1 : x.pos + 1 ≤ H.s.length)
    (hs1 : S.s1 = true → (lmd.isPrefixOf (H.s.drop x.pos) || lno.isPrefixOf (H.s.drop x.pos)) = false) (hs2 : S.dv = true → S.s2 = true → dvOn true x = true → (divr x.org).isPrefixOf (H.s.drop x.pos) = false) (hs3 : S.dv = true → S.s2 = false → x.chk = false) :
    ∀ w, Cl X (cM H x st W gd q (secM H S) G) w → Calls Tryz.prog 76 #[pS H, fnV 45] w fun e w' => ∃ qw : RS × Nat, e = .returned (stV (lexR envT H.s S.dv (atP H.s x)).2) ∧ Cl X (cM H (lexR envT H.s S.dv (atP H.s x)).1 st qw.2 gd qw.1 (secM H S) G) w' ∧ StOk X H (lexR envT H.s S.dv (atP H.s x)).1 qw.1 G := by
  intro w hw
  rcases (Bool.eq_false_or_eq_true S.dv).symm with hdv | hdv
  · rw [secM_eq hdv] at hw ⊢
    rw [hdv]
    exact (hlexF_calls hX hal hS hf hnl st W gd hp1 hs1 w hw).mono fun e w' ⟨q', W', h⟩ => ⟨(q', W'), h⟩
  · rw [secM_eq hdv] at hw ⊢
    rw [hdv]
    exact (hlexT_calls hX hal hS hf hnl st W gd hp1 hs1 (hs2 hdv) (hs3 hdv) w hw).mono fun e w' ⟨q', W', h⟩ => ⟨(q', W'), h⟩
theorem main_found' {E : Env} {s : T} {dv : Bool} {x : Lx} {k : Nat} (he : ¬ s.length ≤ x.pos) (h : found s dv x = some k) : main E s dv x = piece E s dv (atP s (mv k x)) := by
  unfold main atP
  rw [if_neg he, h]
  rfl
set_option maxHeartbeats 2000000 in
theorem main9 {Z X : Cx} {H : Hd} {F G : Mem} {w : World} {m0 : Mem} (hZ : Z = X.sub 48 w) (hw : Cl X m0 w) (hX : Ok Z H) {y : Lx} {q : RS} {S : Sec} (st : Value) (W gd : Nat) (dv : Bool) (r : Res) (hr : r = piece envT H.s dv (atP H.s y))
    (hcall : ∀ w, Cl Z (cM H y st W gd q F G) w → Calls Tryz.prog 76 #[pS H, fnV 45] w fun e w' => ∃ qw : RS × Nat, e = .returned (stV (lexR envT H.s dv (atP H.s y)).2) ∧ Cl Z (cM H (lexR envT H.s dv (atP H.s y)).1 st qw.2 gd qw.1 F G) w' ∧ StOk Z H (lexR envT H.s dv (atP H.s y)).1 qw.1 G)
    (R : Ending → World → Prop) (hR : ∀ (q' : RS) (W' : Nat) (w' : World), Cl X (cM H r.1 st W' gd q' F G) w' → StOk X H r.1 q' G → R (.returned (stV r.2)) w') :
    PJ Z ((codeOut Tryz.f45 9).wp Tryz.prog (bodyPost Tryz.prog Tryz.f45 R)) [(0, pL H)] (cM H y st W gd q F G) := by
  subst hZ
  subst hr
  conv => arg 2; arg 2; whnf
  obtain ⟨u, hu⟩ : ∃ u, (lexR envT H.s dv (atP H.s y)).2 = u := ⟨_, rfl⟩
  cases u with
  | none =>
    obtain ⟨h1, h2⟩ := lexR_err hu
    rw [h1] at hcall
    rw [h2] at hR
    repeat' (first | refine cseq ?_ | refine rtext ?_ | refine cfalse rfl ?_ | refine cskip ?_ | refine cret ?_ | refine jnil ?_ | (first | refine jmv rfl rfl rfl ?_ | refine jy (ynil rfl) rfl rfl ?_ | (show Jo _ (.fieldAddr _ _ _); refine jy (yfield rfl (by first | exact fb110_3 | exact fb110_0 | exact fb110_6) rfl) rfl rfl ?_) | (show Jo _ (.load _ _); refine jy (yload (i := 0) rfl rfl rfl one3) rfl rfl ?_) | refine jas_ rfl rfl rfl ?_ | (show Jo _ (.binOp _ _ _ _ _); ((show Jo (some 38) (.binOp .neq _ _ _ _); refine jy (yfn rfl rfl fn104 (nilF_stV _)) rfl rfl ?_))) | (show Jo _ (.store _ _ _); refine jstore (i := 0) rfl rfl rfl rfl rfl si3 hX.mL ?_) | (show Jo _ (.call _); first | (show Jo (some 36) (.call _); refine jcall (ι := RS × Nat) (vs := [pS H, fnV 45]) _ bo104 rfl rfl rfl hcall (fun q1 hS1 => ?_)) | (show Jo _ (.call ⟨.builtin .len, _, _⟩); refine jy (v := .int .i64 (H.s.length : Nat)) (ylenl rfl und59) rfl rfl ?_))))
    exact ret1 rfl rfl rfl (fun w' hw' => hR q1.1 q1.2 w' (hw.up hw') ((StOk.up hw hS1).mv rfl (Nat.le_refl _) (Nat.le_trans (StOk.up hw hS1).s (StOk.up hw hS1).p)))
  | some t =>
    rw [lexR_ok (by rw [hu]; exact fun h => by cases h)] at hR
    generalize lexR envT H.s dv (atP H.s y) = rr at hu hcall hR
    obtain ⟨r1, r2⟩ := rr
    dsimp only at hu
    subst hu
    repeat' (first | refine cseq ?_ | refine rtext ?_ | refine ctrue rfl ?_ | refine cret ?_ | refine tret ?_ | refine jnil ?_ | (first | refine jmv rfl rfl rfl ?_ | refine jy (ynil rfl) rfl rfl ?_ | (show Jo _ (.fieldAddr _ _ _); refine jy (yfield rfl fb110_6 rfl) rfl rfl ?_) | (show Jo _ (.load _ _); refine jy (yload (i := 0) rfl rfl rfl one3) rfl rfl ?_) | refine jas_ rfl rfl rfl ?_ | (show Jo _ (.binOp _ _ _ _ _); ((show Jo (some 38) (.binOp .neq _ _ _ _); refine jy (yfn rfl rfl fn104 (nilF_stV _)) rfl rfl ?_))) | (show Jo _ (.call _); ((show Jo (some 36) (.call _); refine jcall (ι := RS × Nat) (vs := [pS H, fnV 45]) _ bo104 rfl rfl rfl hcall (fun q1 hS1 => ?_))))))
    exact ret1 rfl rfl rfl (fun w' hw' => hR q1.1 q1.2 w' (hw.up hw') (StOk.up hw hS1))
set_option maxHeartbeats 2000000 in
theorem main_walk {X : Cx} {H : Hd} {G : Mem} (hX : Ok X H) {S : Sec} (hSm : SecMay X H S) {x : Lx} {q : RS} (hS : StOk X H x q G) (hok : SecOk H.s x S) (hf : x.items.length < 999999998000) (hnl : x.name.size ≤ 4611686018427387904) (st : Value) (W gd : Nat) : ∀ w, Cl X (cM H x st W gd q (secM H S) G) w →
    Calls Tryz.prog 45 #[pL H] w fun e w' => ∃ (q' : RS) (W' : Nat) (S' : Sec), e = .returned (stV (main envT H.s S.dv x).2) ∧ Cl X (cM H (main envT H.s S.dv x).1 st W' gd q' (secM H S') G) w' ∧ StOk X H (main envT H.s S.dv x).1 q' G ∧ SecR S S' ∧ SecOk H.s x S' := by
  intro w hw
  refine enterC 48 hw Tryz.func45 rfl rfl (vs := [pL H]) rfl ?_
  replace hX := hX.sub hw 48
  replace hS := hS.sub 48 w
  replace hSm := hSm.sub 48 w
  have hbig := hX.big
  conv => arg 2; arg 2; whnf
  by_cases he : H.s.length ≤ x.pos
  · have hEO : decide (H.s.length ≤ x.pos) = true := decide_eq_true he
    have e1 : main envT H.s S.dv x = (x, some .done) := by unfold main; rw [if_pos he]
    rw [e1]
    repeat' (first | refine cseq ?_ | refine rtext ?_ | refine ctrue rfl ?_ | refine cret ?_ | refine tret ?_ | refine jnil ?_ | (first | refine jmv rfl rfl rfl ?_ | refine jas_ rfl rfl rfl ?_ | (show Jo _ (.call _); ((show Jo (some 6) (.call _); refine jcallq (v := .bool (decide (H.s.length ≤ x.pos))) bo101 rfl rfl rfl (quietC fun w' hw' => isEOF_calls (l := lsOf x st W (fV gd (divr x.org)) q.val) (hw'.1.sub (List.Sublist.cons_cons _ (List.nil_sublist _)))) ?_; rw [hEO])))))
    exact ret1 rfl rfl rfl (fun w' hw' => ⟨q, W, S, rfl, hw.up hw', StOk.up hw hS, SecR.rfl', hok⟩)
  have hEO : decide (H.s.length ≤ x.pos) = false := decide_eq_false he
  cases hfd : found H.s S.dv x with
  | none =>
    have e1 : main envT H.s S.dv x = ({ x with pos := H.s.length }, some .done) := by unfold main; rw [if_neg he, hfd]
    rw [e1]
    have hz : optI none = -1 := rfl
    repeat' (first | refine cseq ?_ | refine rtext ?_ | refine ctrue rfl ?_ | refine cfalse rfl ?_ | refine cskip ?_ | refine cret ?_ | refine tret ?_ | refine jnil ?_ | (first | refine jmv rfl rfl rfl ?_ | refine jy (ynil rfl) rfl rfl ?_ | (show Jo _ (.fieldAddr _ _ _); refine jy (yfield rfl (by first | exact fb110_3 | exact fb110_0 | exact fb110_6) rfl) rfl rfl ?_) | (show Jo _ (.load _ _); refine jy (yload (i := 0) rfl rfl rfl one3) rfl rfl ?_) | refine jas_ rfl rfl rfl ?_ | (show Jo _ (.binOp _ _ _ _ _); refine jy (yeql rfl rfl (by (exact decide_eq_true (by omega)))) rfl rfl ?_) | (show Jo _ (.store _ _ _); refine jstore (i := 0) rfl rfl rfl rfl rfl si3 hX.mL ?_) | (show Jo _ (.call _); first | (show Jo (some 6) (.call _); refine jcallq (v := .bool (decide (H.s.length ≤ x.pos))) bo101 rfl rfl rfl (quietC fun w' hw' => isEOF_calls (l := lsOf x st W (fV gd (divr x.org)) q.val) (hw'.1.sub (List.Sublist.cons_cons _ (List.nil_sublist _)))) ?_; rw [hEO]) | (show Jo (some 11) (.call _); refine jcall (ι := Sec) (vs := [pS H]) (v := fun _ => .int .i64 (optI (found H.s S.dv x))) (m' := fun S' => cM H x st W gd q (secM H S') G) (fun S' => SecR S S' ∧ SecOk H.s x S' ∧ (S'.all = false → S'.s1 = (idx lsc (H.s.drop x.pos)).isNone ∧ (S.dv = true → S'.s2 = (idxD H.s x).isNone))) bo103 rfl rfl rfl (skip_calls hX hSm hS.p hok st W gd) (fun S1 hS1 => ?_); rw [hfd]) | (show Jo _ (.call ⟨.builtin .len, _, _⟩); refine jy (v := .int .i64 (H.s.length : Nat)) (ylenl rfl und59) rfl rfl ?_))))
    exact ret1 rfl rfl rfl (fun w' hw' => ⟨q, W, S1, rfl, hw.up hw', (StOk.up hw hS).mv rfl (Nat.le_refl _) (Nat.le_trans hS.s hS.p), hS1.1, hS1.2.1⟩)
  | some k =>
    have hz : optI (some k) = k := rfl
    rw [main_found' he hfd]
    have hps := found_pos hfd
    have h9 : ∀ (S1 : Sec), SecR S S1 → SecOk H.s x S1 → (S1.all = false → S1.s1 = (idx lsc (H.s.drop x.pos)).isNone ∧ (S.dv = true → S1.s2 = (idxD H.s x).isNone)) → PJ (X.sub 48 w) ((codeOut Tryz.f45 9).wp Tryz.prog (bodyPost Tryz.prog Tryz.f45 fun e w' => ∃ (q' : RS) (W' : Nat) (S' : Sec), e = .returned (stV (piece envT H.s S.dv (atP H.s (mv k x))).2) ∧ Cl X (cM H (piece envT H.s S.dv (atP H.s (mv k x))).1 st W' gd q' (secM H S') G) w' ∧ StOk X H (piece envT H.s S.dv (atP H.s (mv k x))).1 q' G ∧ SecR S S' ∧ SecOk H.s x S')) [(0, pL H)] (cM H (mv k x) st W gd q (secM H S1) G) := by
      intro S1 hR hO hE
      have hal1 : S1.all = false := by
        rcases (Bool.eq_false_or_eq_true S1.all).symm with h | h
        · exact h
        · have := hO.al h
          rw [hR.dv, hfd] at this
          cases this
      obtain ⟨hE1, hE2⟩ := hE hal1
      have hdr : H.s.drop (mv k x).pos = (H.s.drop x.pos).drop k := by rw [List.drop_drop]; rfl
      have hcall := hlex_calls (G := G) hX hal1 (hS.mv (y := mv k x) rfl (by show x.pos + k ≤ _; omega) (Nat.le_trans hS.s (Nat.le_add_right _ _))) hf hnl st W gd hps
        (fun h => by rw [hdr]; exact noPre (idx_drop (by decide) _ _ (Option.isNone_iff_eq_none.1 (hE1 ▸ h))))
        (fun h0 h h2 => by
          have h3 : idxD H.s x = none := Option.isNone_iff_eq_none.1 ((hE2 (hR.dv ▸ h0)) ▸ h)
          unfold idxD at h3
          have h4 : x.chk = false := by
            rcases (Bool.eq_false_or_eq_true x.chk).symm with h | h
            · exact h
            · unfold dvOn at h2
              rw [show (mv k x).chk = x.chk from rfl, h] at h2
              cases h2
          rw [if_neg (by rw [h4]; exact Bool.noConfusion)] at h3
          rw [hdr]
          have h5 := idx_drop (show divr x.org ≠ [] by cases x.org <;> decide) _ k h3
          rcases (Bool.eq_false_or_eq_true ((divr (mv k x).org).isPrefixOf ((H.s.drop x.pos).drop k))).symm with h | h
          · exact h
          · rw [show (mv k x).org = x.org from rfl] at h
            rw [idx_cons_pre h] at h5
            cases h5)
        (fun h0 h => by
          have h3 := hE2 (hR.dv ▸ h0)
          rw [h] at h3
          unfold idxD at h3
          show x.chk = false
          rcases (Bool.eq_false_or_eq_true x.chk).symm with h | h
          · exact h
          · rw [if_pos h] at h3
            cases h3)
      rw [hR.dv] at hcall
      exact main9 rfl hw hX (S := S1) st W gd S.dv _ rfl hcall _ fun q' W' w' h2 h3 => ⟨q', W', S1, rfl, h2, h3, hR, hO⟩
    by_cases hk0 : 0 < k
    · repeat' ((fail_if_success (show PJ _ (Code.wp _ (Code.seq (Code.region 9 _ _) _) _) _ _)); first | first | refine cseq ?_ | refine rtext ?_ | refine ctrue rfl ?_ | refine cfalse rfl ?_ | refine cskip ?_ | refine jnil ?_ | (first | refine jmv rfl rfl rfl ?_ | refine jy (ynil rfl) rfl rfl ?_ | (show Jo _ (.fieldAddr _ _ _); refine jy (yfield rfl (by first | exact fb110_3 | exact fb110_6) rfl) rfl rfl ?_) | (show Jo _ (.load _ _); refine jy (yload (i := 0) rfl rfl rfl one3) rfl rfl ?_) | refine jas_ rfl rfl rfl ?_ | (show Jo _ (.binOp _ _ _ _ _); first | (show Jo _ (.binOp .gtr _ _ _ _); refine jy (ygtr rfl rfl (by (exact decide_eq_true (by omega)))) rfl rfl ?_) | (show Jo (some 29) (.binOp .add _ _ _ _); refine jy (yadd (c := ((x.pos + k : Nat) : Int)) rfl rfl (by dsimp only [lsOf]; rw [i64_in (by omega) (by omega)]; omega)) rfl rfl ?_) | refine jy (yeql rfl rfl (by (exact decide_eq_false (by omega)))) rfl rfl ?_) | (show Jo _ (.store _ _ _); refine jstore (i := 0) rfl rfl rfl rfl rfl si3 hX.mL ?_) | (show Jo _ (.call _); first | (show Jo (some 6) (.call _); refine jcallq (v := .bool (decide (H.s.length ≤ x.pos))) bo101 rfl rfl rfl (quietC fun w' hw' => isEOF_calls (l := lsOf x st W (fV gd (divr x.org)) q.val) (hw'.1.sub (List.Sublist.cons_cons _ (List.nil_sublist _)))) ?_; rw [hEO]) | (show Jo (some 11) (.call _); refine jcall (ι := Sec) (vs := [pS H]) (v := fun _ => .int .i64 (optI (found H.s S.dv x))) (m' := fun S' => cM H x st W gd q (secM H S') G) (fun S' => SecR S S' ∧ SecOk H.s x S' ∧ (S'.all = false → S'.s1 = (idx lsc (H.s.drop x.pos)).isNone ∧ (S.dv = true → S'.s2 = (idxD H.s x).isNone))) bo103 rfl rfl rfl (skip_calls hX hSm hS.p hok st W gd) (fun S1 hS1 => ?_); rw [hfd]))))
      exact fin (h9 S1 hS1.1 hS1.2.1 hS1.2.2) ⟨rfl, trivial⟩ rfl
    · obtain rfl : k = 0 := by omega
      repeat' ((fail_if_success (show PJ _ (Code.wp _ (Code.seq (Code.region 9 _ _) _) _) _ _)); first | first | refine cseq ?_ | refine rtext ?_ | refine cfalse rfl ?_ | refine cskip ?_ | refine jnil ?_ | (first | refine jmv rfl rfl rfl ?_ | refine jy (ynil rfl) rfl rfl ?_ | (show Jo _ (.fieldAddr _ _ _); refine jy (yfield rfl fb110_6 rfl) rfl rfl ?_) | (show Jo _ (.load _ _); refine jy (yload (i := 0) rfl rfl rfl one3) rfl rfl ?_) | refine jas_ rfl rfl rfl ?_ | (show Jo _ (.binOp _ _ _ _ _); first | (show Jo _ (.binOp .gtr _ _ _ _); refine jy (ygtr rfl rfl (by (exact decide_eq_false (by omega)))) rfl rfl ?_) | refine jy (yeql rfl rfl (by (exact decide_eq_false (by omega)))) rfl rfl ?_) | (show Jo _ (.call _); first | (show Jo (some 6) (.call _); refine jcallq (v := .bool (decide (H.s.length ≤ x.pos))) bo101 rfl rfl rfl (quietC fun w' hw' => isEOF_calls (l := lsOf x st W (fV gd (divr x.org)) q.val) (hw'.1.sub (List.Sublist.cons_cons _ (List.nil_sublist _)))) ?_; rw [hEO]) | (show Jo (some 11) (.call _); refine jcall (ι := Sec) (vs := [pS H]) (v := fun _ => .int .i64 (optI (found H.s S.dv x))) (m' := fun S' => cM H x st W gd q (secM H S') G) (fun S' => SecR S S' ∧ SecOk H.s x S' ∧ (S'.all = false → S'.s1 = (idx lsc (H.s.drop x.pos)).isNone ∧ (S.dv = true → S'.s2 = (idxD H.s x).isNone))) bo103 rfl rfl rfl (skip_calls hX hSm hS.p hok st W gd) (fun S1 hS1 => ?_); rw [hfd]))))
      exact fin (h9 S1 hS1.1 hS1.2.1 hS1.2.2) ⟨rfl, trivial⟩ rfl
@[reducible] def preX (u : Option Lex0.St) (x : Lx) : Lx := if jo u then mv 1 x else x
structure SI (s : T) (st : Lex0.St) (x : Lx) (S : Sec) : Prop where
  ok : SecOk s x S
  no : mainSt st = false → S.all = false ∧ S.s1 = false ∧ S.s2 = false
theorem SecOk.free {s : T} {x y : Lx} {S : Sec} (h : SecOk s x S) (hn : S.all = false ∧ S.s1 = false ∧ S.s2 = false) : SecOk s y S := ⟨(fun a => by rw [hn.1] at a; cases a), (fun a => by rw [hn.2.1] at a; cases a), (fun _ a => by rw [hn.2.2] at a; cases a), h.kc, h.kl⟩
def StepR (X : Cx) (H : Hd) (sv : Value) (S : Sec) (r : Res) (e : Ending) (w' : World) : Prop := ∃ (q' : RS) (W' : Nat) (G' : Mem) (S' : Sec) (gd' : Nat), e = .returned (stV r.2) ∧ Cl X (cM H (preX r.2 r.1) sv W' gd' q' (secM H S') G') w' ∧ StOk X H r.1 q' G' ∧ (jo r.2 = true → W' = 1) ∧ SecR S S' ∧ (∀ st', r.2 = some st' → SI H.s st' r.1 S')
theorem jo_main {u : Option Lex0.St} (h : ∀ st, u = some st → mainSt st = true) : jo u = false := by
  cases u with
  | none => rfl
  | some st =>
    have := h st rfl
    cases st <;> first | rfl | cases this
theorem step_main {E : Env} {s : T} {dv : Bool} {st : Lex0.St} {x : Lx} (hst : mainSt st = true) (st' : Lex0.St) (h : (Lex0.step E s dv st x).2 = some st') : mainSt st' = true := main_st (dv := dv) (E := E) (s := s) (x := x) (y := (Lex0.step E s dv st x).1) hst (by rw [← h])
theorem env_al : envT.al (-1) = false := by kernel_rfl
theorem stepR_of {X : Cx} {H : Hd} {sv : Value} {gd : Nat} {S S' : Sec} {st : Lex0.St} {x : Lx} {e : Ending} {w' : World} (hst : mainSt st = true) (hg : Lex0.Good envT H.s st x) (hR : SecR S S') (hO : SecOk H.s x S') (h : SR X H sv gd (secM H S') (Lex0.step envT H.s S.dv st x) e w') : StepR X H sv S (Lex0.step envT H.s S.dv st x) e w' := by
  obtain ⟨q', W, G', h1, h2, h3⟩ := h
  have hm : ∀ st', (Lex0.step envT H.s S.dv st x).2 = some st' → mainSt st' = true := step_main hst
  have hj := jo_main hm
  have hk := kp_step (E := envT) (s := H.s) (dv := S.dv) hst x
  have hf := (step_fwd (dv := S.dv) env_al hg).1
  refine ⟨q', W, G', S', gd, h1, ?_, h3, fun h => ?_, hR, fun st' hs => ⟨hO.fwd hf.le hk.o hk.c, fun hn => ?_⟩⟩
  · unfold preX
    rw [hj, if_neg (by simp)]
    exact h2
  · rw [hj] at h; cases h
  · rw [hm st' hs] at hn; cases hn
theorem step_calls {X : Cx} {H : Hd} {G : Mem} (hX : Ok X H) (hl32 : H.s.length ≤ 4294967296) {S : Sec} (hSm : SecMay X H S) {st : Lex0.St} {x : Lx} {q : RS} {W : Nat} (hg : Lex0.Good envT H.s st x) (hS : StOk X H x q G) (hSI : SI H.s st x S) (hf : x.items.length < 999999990000) (hstp : x.step < 4611686018427387904) (hcl : x.closing < 4611686018427387904) (hnl : x.name.size ≤ 4611686018427387904) (hW : jo (some st) = true → W = 1) (sv : Value) (gd : Nat) :
    ∀ w, Cl X (cM H (preX (some st) x) sv W gd q (secM H S) G) w → Calls Tryz.prog (stF st) #[pL H] w (StepR X H sv S (Lex0.step envT H.s S.dv st x)) := by
  intro w hw
  have hf9 : x.items.length < 999999999000 := by omega
  have hh := hg.h
  have hp3 : ∀ {p : T}, p.isPrefixOf (H.s.drop x.pos) = true → p.length = 3 → x.pos + 3 ≤ H.s.length := fun h1 h2 => by
    have := Lex0.pre_len h1
    rw [List.length_drop] at this
    omega
  cases st with
  | main =>
    refine (main_walk hX hSm hS hSI.ok (by omega) hnl sv W gd w hw).mono fun e w' ⟨q', W', S', h1, h2, h3, h4, h5⟩ => ?_
    exact stepR_of (st := .main) rfl hg h4 h5 ⟨q', W', G, h1, h2, h3⟩
  | done => exact (done_calls hX hS hf9 sv W gd w hw).mono fun e w' h => stepR_of (st := .done) rfl hg SecR.rfl' hSI.ok h
  | left => exact (left_calls hX hS hf9 (hp3 hh (lf3 _)) sv W gd w hw).mono fun e w' h => stepR_of (st := .left) rfl hg SecR.rfl' hSI.ok h
  | right => exact (right_calls hX hS hf9 (hp3 hh (rd3 _)) sv W gd w hw).mono fun e w' h => stepR_of (st := .right) rfl hg SecR.rfl' hSI.ok h
  | comment => exact (comment_calls hX hS hf9 sv W gd w hw).mono fun e w' h => stepR_of (st := .comment) rfl hg SecR.rfl' hSI.ok h
  | inside => exact (inside_calls hX hl32 hS hf9 hcl trS sv W gd w hw).mono fun e w' h => stepR_of (st := .inside) rfl hg SecR.rfl' hSI.ok h
  | pval => exact (pval_calls hX hS hf9 sv W gd w hw).mono fun e w' h => stepR_of (st := .pval) rfl hg SecR.rfl' hSI.ok h
  | ident => exact (ident_calls hX hS hf9 hstp trS sv W gd w hw).mono fun e w' h => stepR_of (st := .ident) rfl hg SecR.rfl' hSI.ok h
  | endsc => exact (endsc_calls hX hS hf9 sv W gd w hw).mono fun e w' h => stepR_of (st := .endsc) rfl hg SecR.rfl' hSI.ok h
  | intro =>
    refine (intro_calls hX hS hf sv W gd w hw).mono fun e w' ⟨q', W', G', h1, h2, h3, h4⟩ => ⟨q', W', G', S, gd, h1, h2, h3, h4, SecR.rfl', fun st' _ => ⟨hSI.ok.free (hSI.no rfl), fun _ => hSI.no rfl⟩⟩
  | json =>
    obtain rfl := hW rfl
    refine (json_calls hX hS hf9 hh sv gd w hw).mono fun e w' ⟨q', W', G', h1, h2, h3⟩ => ?_
    have hj : jo (json H.s x).2 = false := by unfold json; split <;> rfl
    refine ⟨q', W', G', S, gd, h1, ?_, h3, (fun h => by rw [show (Lex0.step envT H.s S.dv .json x) = json H.s x from rfl, hj] at h; cases h), SecR.rfl', fun st' _ => ⟨hSI.ok.free (hSI.no rfl), fun _ => hSI.no rfl⟩⟩
    show Cl X (cM H (if jo (json H.s x).2 then mv 1 (json H.s x).1 else (json H.s x).1) sv W' gd q' (secM H S) G') w'
    rw [hj]
    exact h2
  | org =>
    obtain rfl := hW rfl
    refine (org_calls hX hS hf9 (by obtain ⟨r, hr⟩ := hh; have := congrArg List.length hr; rw [List.length_drop, List.length_cons] at this; omega) sv gd w hw).mono fun e w' ⟨g', q', W', G', h1, h2, h3⟩ => ?_
    have hj : jo (org H.s x).2 = false := by unfold org; split <;> rfl
    refine ⟨q', W', G', S, g', h1, ?_, h3, (fun h => by rw [show (Lex0.step envT H.s S.dv .org x) = org H.s x from rfl, hj] at h; cases h), SecR.rfl', fun st' _ => ⟨hSI.ok.free (hSI.no rfl), fun _ => hSI.no rfl⟩⟩
    show Cl X (cM H (if jo (org H.s x).2 then mv 1 (org H.s x).1 else (org H.s x).1) sv W' g' q' (secM H S) G') w'
    rw [hj]
    exact h2
theorem bo106 : bodyB Tryz.prog 78 = true := by kernel_rfl
theorem bo_stF (st : Lex0.St) : bodyB Tryz.prog (stF st) = true := by
  cases st with
  | main => exact bo68
  | done => exact bo102
  | left => exact bo141
  | comment => exact bo157
  | right => exact bo169
  | inside => exact bo159
  | pval => exact bo173
  | ident => exact bo177
  | endsc => exact bo190
  | intro => exact bo67
  | json => exact bo97
  | org => exact bo98
theorem fence_name {s : T} {c : UInt8} {ty : Nat} {x : Lx} : (fence s c ty x).1.name = x.name := by
  unfold fence
  dsimp only
  split
  · split
    · split
      · split <;> rfl
      · rfl
    · rfl
  · split <;> rfl
  · rfl
theorem front_name {E : Env} {s : T} {dv : Bool} {st : Lex0.St} {x : Lx} (h : mainSt st = false) : (Lex0.step E s dv st x).1.name = x.name := by
  cases st with
  | intro =>
    show (intro s x).1.name = x.name
    unfold intro
    dsimp only
    split
    · rfl
    · split
      · exact fence_name
      · split
        · exact fence_name
        · split
          · rfl
          · split <;> rfl
  | json => show (json s x).1.name = x.name; unfold json; split <;> rfl
  | org => show (org s x).1.name = x.name; unfold org; split <;> rfl
  | _ => cases h
structure RI where
  u : Option Lex0.St
  x : Lx
  q : RS
  W : Nat
  G : Mem
  S : Sec
  gd : Nat
structure RP (X : Cx) (H : Hd) (S0 : Sec) (l : List Itm) (n : Nat) (i : RI) : Prop where
  ok : StOk X H i.x i.q i.G
  w : jo i.u = true → i.W = 1
  r : SecR S0 i.S
  go : ∀ st, i.u = some st → ∃ k, n = k + 1 ∧ Lex0.Good envT H.s st i.x ∧ SI H.s st i.x i.S ∧ RunsN envT H.s S0.dv k st i.x l ∧ i.x.items.length + 6 * n ≤ 999999990000 ∧ i.x.step + n ≤ 4611686018427387904 ∧ i.x.closing + n ≤ 4611686018427387904 ∧ i.x.name.size ≤ 4294967296
  e : i.u = none → i.x.items = l
def riM (H : Hd) (i : RI) : Mem := cM H (preX i.u i.x) (stV i.u) i.W i.gd i.q (secM H i.S) i.G
theorem runs_step {E : Env} {s : T} {dv : Bool} {k : Nat} {st : Lex0.St} {x : Lx} {l : List Itm} (h : RunsN E s dv k st x l) : (∀ st', (Lex0.step E s dv st x).2 = some st' → ∃ j, k = j + 1 ∧ RunsN E s dv j st' (Lex0.step E s dv st x).1 l) ∧ ((Lex0.step E s dv st x).2 = none → (Lex0.step E s dv st x).1.items = l) := by
  cases h with
  | stop h => rw [h]; exact ⟨fun st' h => (by cases h), fun _ => rfl⟩
  | go h1 h2 => rw [h1]; exact ⟨fun st' h => (by cases h; exact ⟨_, rfl, h2⟩), fun h => (by cases h)⟩
set_option maxHeartbeats 2000000 in
theorem run_calls {X : Cx} {H : Hd} {G : Mem} (hX : Ok X H) (hl32 : H.s.length ≤ 4294967296) {S : Sec} (hSm : SecMay X H S) {st0 : Lex0.St} (hst0 : H.st0 = stV (some st0)) (hj0 : jo (some st0) = false) {x : Lx} {q : RS} {W : Nat} (sv : Value) (gd : Nat) (l : List Itm) (N : Nat)
    (hg : Lex0.Good envT H.s st0 x) (hS : StOk X H x q G) (hSI : SI H.s st0 x S) (hr : RunsN envT H.s S.dv N st0 x l) (hf : x.items.length + 6 * (N + 1) ≤ 999999990000) (hstp : x.step + (N + 1) ≤ 4611686018427387904) (hcl : x.closing + (N + 1) ≤ 4611686018427387904) (hnl : x.name.size ≤ 4294967296) :
    ∀ w, Cl X (cM H x sv W gd q (secM H S) G) w → Calls Tryz.prog 78 #[pL H] w fun e w' => ∃ i : RI, e = .returned (pL H) ∧ Cl X (cM H i.x (stV i.u) i.W i.gd i.q (secM H i.S) i.G) w' ∧ StOk X H i.x i.q i.G ∧ i.x.items = l ∧ SecR S i.S := by
  intro w hw
  refine enterC 25 hw Tryz.func78 rfl rfl (vs := [pL H]) rfl ?_
  replace hX := hX.sub hw 25
  replace hS := hS.sub 25 w
  replace hSm := hSm.sub 25 w
  conv => arg 2; arg 2; whnf
  have hst1 : ∀ u : Option Lex0.St, (stV u).oneCell' = true := fun u => by cases u <;> rfl
  have hst0' : H.st0.oneCell' = true := by rw [hst0]; rfl
  repeat' (first | refine cseq ?_ | refine rtext ?_ | refine cblk ?_ | refine jnil ?_ | (first | refine jmv rfl rfl rfl ?_ | refine jy (ynil rfl) rfl rfl ?_ | (show Jo _ (.fieldAddr _ _ _); refine jy (yfield rfl (by first | exact fb110_1 | exact fb110_2) rfl) rfl rfl ?_) | (show Jo _ (.load _ _); refine jy (yload (i := 0) rfl rfl rfl one104) rfl rfl ?_) | refine jas_ rfl rfl rfl ?_ | (show Jo _ (.store _ _ _); refine jstore (i := 0) rfl rfl rfl rfl hst0' si104 hX.mL ?_)))
  refine fin (f' := [(0, pL H)]) (m' := riM H ⟨some st0, x, q, W, G, S, gd⟩)
    (cloop (ι := RI) (fun _ => [(0, pL H)]) (fun i => riM H i) (RP (X.sub 25 w) H S l) (N + 1) ⟨some st0, x, q, W, G, S, gd⟩
      ⟨hS, (fun h => by rw [hj0] at h; cases h), SecR.rfl', (fun st h => by cases h; exact ⟨N, rfl, hg, hSI, hr, hf, hstp, hcl, hnl⟩), (fun h => by cases h)⟩ ?_) ⟨rfl, trivial⟩ (by unfold riM preX; dsimp only; rw [hj0, ← hst0]; rfl)
  rintro n ⟨u, y, q1, W1, G1, S1, gd1⟩ ⟨hok, hw1, hR, hgo, he⟩ K hK
  dsimp only at hok hw1 hR hgo he ⊢
  cases u with
  | none =>
    unfold riM
    dsimp only
    repeat' (first | refine cseq ?_ | refine rtext ?_ | refine cfalse rfl ?_ | refine cret ?_ | refine cexit ?_ | refine jnil ?_ | (first | refine jmv rfl rfl rfl ?_ | refine jy (ynil rfl) rfl rfl ?_ | (show Jo _ (.fieldAddr _ _ _); refine jy (yfield rfl fb110_2 rfl) rfl rfl ?_) | (show Jo _ (.load _ _); refine jy (yload (i := 0) rfl rfl rfl one104) rfl rfl ?_) | refine jas_ rfl rfl rfl ?_ | (show Jo _ (.binOp _ _ _ _ _); ((show Jo _ (.binOp .neq _ _ _ _); refine jy (yfn rfl rfl fn104 (nilF_stV none)) rfl rfl ?_)))))
    exact ret1 rfl rfl rfl (fun w' hw' => ⟨⟨none, y, q1, W1, G1, S1, gd1⟩, rfl, hw.up hw', StOk.up hw hok, he rfl, hR⟩)
  | some st =>
    obtain ⟨k, rfl, g1, g2, g3, g4, g5, g6, g7⟩ := hgo st rfl
    have hcall : ∀ w', Cl (X.sub 25 w) (cM H (preX (some st) y) (stV (some st)) W1 gd1 q1 (secM H S1) G1) w' → Calls Tryz.prog (stF st) #[pL H] w' fun e w'' => ∃ i : RI, e = .returned (stV i.u) ∧ Cl (X.sub 25 w) (cM H (preX i.u i.x) (stV (some st)) i.W i.gd i.q (secM H i.S) i.G) w'' ∧ RP (X.sub 25 w) H S l k i := by
      intro w1 hw1'
      have hmv := (step_fwd (dv := S1.dv) env_al g1)
      have hrs := runs_step (hR.dv ▸ g3)
      have hnm : (Lex0.step envT H.s S1.dv st y).1.name.size ≤ 4294967296 := by
        rcases (Bool.eq_false_or_eq_true (mainSt st)).symm with hm | hm
        · rw [front_name hm]; exact g7
        · rcases (kp_step (E := envT) (s := H.s) (dv := S1.dv) hm y).n with h | ⟨a, b, h⟩
          · rw [h]; exact g7
          · rw [h]; exact Nat.le_trans (ba_size_le _ _ _) hl32
      obtain ⟨hm1, hm2⟩ := hmv
      obtain ⟨ks, hi1, hi2⟩ := hm1.its
      refine (step_calls hX hl32 (hR.may hSm) g1 hok g2 (by omega) (by omega) (by omega) (by omega) hw1 (stV (some st)) gd1 w1 hw1').mono fun e w'' ⟨q', W', G', S', gd', h1, h2, h3, h4, h5, h6⟩ =>
        ⟨⟨(Lex0.step envT H.s S1.dv st y).2, (Lex0.step envT H.s S1.dv st y).1, q', W', G', S', gd'⟩, h1, h2, h3, h4, hR.trans h5, fun st' hs => ?_, fun hs => hrs.2 hs⟩
      obtain ⟨j, rfl, hj⟩ := hrs.1 st' hs
      have hl := congrArg List.length hi1
      rw [List.length_append] at hl
      have hs1 := hm1.stp
      have hs2 := hm1.cl
      exact ⟨j, rfl, ⟨hm1.p, hm1.s, (hm2 st' hs).1⟩, h6 st' hs, hR.dv ▸ hj, by dsimp only; omega, by dsimp only; omega, by dsimp only; omega, hnm⟩
    unfold riM
    dsimp only
    repeat' (first | refine cseq ?_ | refine rtext ?_ | refine ctrue rfl ?_ | refine cskip ?_ | refine cblk ?_ | refine tnorm ?_ | refine bnorm ?_ | refine jnil ?_ | (first | refine jmv rfl rfl rfl ?_ | refine jy (ynil rfl) rfl rfl ?_ | (show Jo _ (.fieldAddr _ _ _); refine jy (yfield rfl fb110_2 rfl) rfl rfl ?_) | (show Jo _ (.load _ _); refine jy (yload (i := 0) rfl rfl rfl one104) rfl rfl ?_) | (show Jo _ (.binOp _ _ _ _ _); ((show Jo _ (.binOp .neq _ _ _ _); refine jy (yfn rfl rfl fn104 (nilF_stV (some st))) rfl rfl ?_))) | (show Jo _ (.store _ _ _); refine jstore (i := 0) rfl rfl rfl rfl (by (exact hst1 _)) si104 hX.mL ?_) | (show Jo _ (.call _); ((show Jo (some 21) (.call _); refine jcallC (k := stF st) (us := []) (vs := [pL H]) (ι := RI) _ rfl (bo_stF st) rfl rfl rfl hcall (fun i1 hi1 => ?_))))))
    exact fin (hK k i1 (Nat.lt_succ_self _) hi1) ⟨rfl, trivial⟩ rfl
end Go.Proofs.YtkehggbmpdacpacGreatDoor.Pg
namespace Go.Rx
open Go.RowKit
section
variable {X : Cx} {P : Program} {f : Fr} {m : Mem} {d : Option Tmp} {ty : TypeId} {pos : String} {af : Array Edge} {gd : Option (Nat × Bool)}
variable {ops : Array Oper} {Q : Exit → Act → World → Prop} {K : Act → World → Prop} {rest : List Oper}
theorem jmakeC {dd : Nat} {x y : Operand} {t e size bytes l n : Nat} {k k' : IntKind} {i j : Int} (zs : List Value) (hx : evF f x = some (.int k i)) (hy : evF f y = some (.int k' j)) (hi : i = (l : Nat)) (hj : j = (n : Nat)) (hln : l ≤ n) (hg : growB P t e size bytes = true) (hz : ((P.info? e).bind (·.zero)).map (·.cells) = some zs.toArray) (h0 : Nat.blt 0 size = true)
    (hb : bytes * n ≤ 281474976710656) (h63 : n ≤ 4294967296) (hd : Nat.blt dd X.n = true)
    (h : ∀ g, X.w0.heap.size ≤ g → J false X P ops Q K rest ((dd, .slice (some ⟨g, 0, none⟩) l n) :: f) ((g, (List.replicate n zs).flatten, e) :: m)) : J false X P ops Q K (⟨some dd, .makeSlice t x y, ty, pos, af, none⟩ :: rest) f m := by
  subst hi
  subst hj
  refine jeff (ι := Nat) (v := fun g => .slice (some ⟨g, 0, none⟩) l n) (m' := fun g => (g, (List.replicate n zs).flatten, e) :: m) (fun g => X.w0.heap.size ≤ g) rfl hd (fun a w st => ⟨w.heap.size, w.alloc (.cells (List.replicate n zs).flatten.toArray e), .inl ?_, st.has.push _ _, st.evo.push _, st.evo.size⟩) (fun g hg => h g hg)
  obtain ⟨hu, inf, z, q1, q2, q3, q4, q5⟩ := growB_eq hg
  have hzc : z.cells = zs.toArray := by
    rw [q1] at hz
    simp only [Option.bind_some, q2, Option.map_some, Option.some.injEq] at hz
    exact hz
  have hl : zs.length = size := by rw [hzc, List.size_toArray] at q5; exact q5
  have h0' : 0 < size := Nat.blt_eq.mp h0
  have := run_make (P := P) w t e inf z hu q1 q2 k k' (l : Int) (n : Int) (by omega) (by omega) (by rw [q4, ← Int.natCast_mul]; omega) (by omega)
  rw [hzc, q3, ← hl] at this
  have hm : madeCells zs.toArray (n * zs.length) = (List.replicate n zs).flatten.toArray := by
    rw [← made_list zs (by omega) n]
  simp only [Int.toNat_natCast] at this
  rw [hm] at this
  simp only [execOp, st.agr.eval hx, st.agr.eval hy, Sem.run_bind, this]
  rfl
end
section
variable {qt : Bool} {X : Cx} {P : Program} {ops : Array Oper} {Q : Exit → Act → World → Prop} {K : Act → World → Prop} {l rest : List Oper} {f : Fr} {m mS : Mem} {o : Oper}
theorem ja3 {g g' : Nat} {D D1 D2 D3 : List Nat} {o1 o2 o3 : Oper} (i1 i2 i3 : Nat) (hD1 : appO D [i1] = some D1) (hD2 : appO D [i2] = some D2) (hD3 : appO D [i3] = some D3) (hg : Nat.beq (g' + 1) g = true) (hr : Region.ready .any l.toArray (lst l.length D) = [i1, i2, i3]) (ho1 : nthO l i1 = some o1) (ho2 : nthO l i2 = some o2) (ho3 : nthO l i3 = some o3)
    (h1 : J false X P l.toArray Q (WKeep X mS (WAny P l Q X mS g' D1)) [o1] f m) (h2 : J false X P l.toArray Q (WKeep X mS (WAny P l Q X mS g' D2)) [o2] f m) (h3 : J false X P l.toArray Q (WKeep X mS (WAny P l Q X mS g' D3)) [o3] f m) : PJ X (WAny P l Q X mS g D) f m := .of fun a w s => .of <| by
  obtain rfl := Nat.eq_of_beq_eq_true hg
  obtain rfl := appO_of hD1
  obtain rfl := appO_of hD2
  obtain rfl := appO_of hD3
  refine wpAnyH_all hr (by simp) fun j hj => ?_
  have e : j = i1 ∨ j = i2 ∨ j = i3 := by simpa using hj
  rcases e with rfl | rfl | rfl
  · refine wpOp_mono (fun a' w' h3 => ⟨h3.cl, ?_⟩) (jop ho1 h1 a w s)
    have := h3.out.out
    unfold lst at this ⊢
    rwa [List.foldl_append] at this
  · refine wpOp_mono (fun a' w' h3 => ⟨h3.cl, ?_⟩) (jop ho2 h2 a w s)
    have := h3.out.out
    unfold lst at this ⊢
    rwa [List.foldl_append] at this
  · refine wpOp_mono (fun a' w' h3 => ⟨h3.cl, ?_⟩) (jop ho3 h3 a w s)
    have := h3.out.out
    unfold lst at this ⊢
    rwa [List.foldl_append] at this
end
theorem nodup_pick {α : Type} : ∀ (is : List Nat) (l m : List α), l.Nodup → is.Nodup → is.map (l[·]?) = m.map some → m.Nodup
  | [], l, m, _, _, h => by
    cases m with
    | nil => exact List.nodup_nil
    | cons a r => cases h
  | i :: is, l, m, hl, hi, h => by
    cases m with
    | nil => cases h
    | cons a r =>
      rw [List.map_cons, List.map_cons, List.cons.injEq] at h
      obtain ⟨h1, h2⟩ := h
      obtain ⟨hi1, hi2⟩ := List.nodup_cons.1 hi
      refine List.nodup_cons.2 ⟨fun ha => ?_, nodup_pick is l r hl hi2 h2⟩
      obtain ⟨j, hj, hja⟩ : ∃ j ∈ is, l[j]? = some a := by
        have : some a ∈ is.map (l[·]?) := by rw [h2]; exact List.mem_map_of_mem ha
        obtain ⟨j, hj, e⟩ := List.mem_map.1 this
        exact ⟨j, hj, e⟩
      obtain ⟨hlt, _⟩ := List.getElem?_eq_some_iff.1 h1
      have := (List.getElem?_inj hlt hl).1 (h1.trans hja.symm)
      subst this
      exact hi1 hj
theorem Has.pick {m m' : Mem} {w : World} (is : List Nat) (h : Has m w) (hi : is.Nodup) (he : is.map (m[·]?) = m'.map some) : Has m' w := by
  have hm : ∀ x ∈ m', x ∈ m := fun x hx => by
    have : some x ∈ is.map (m[·]?) := by rw [he]; exact List.mem_map_of_mem hx
    obtain ⟨j, _, e⟩ := List.mem_map.1 this
    exact List.mem_of_getElem? e
  refine ⟨?_, fun x hx => h.blk x (hm x hx)⟩
  refine nodup_pick is (m.map (·.1)) _ h.ne hi ?_
  have := congrArg (List.map (Option.map (fun x : Nat × List Value × Bk => x.1))) he
  simpa [Function.comp_def] using this
theorem Cl.pick {X : Cx} {m m' : Mem} {w : World} (is : List Nat) (h : Cl X m w) (hi : is.Nodup) (he : is.map (m[·]?) = m'.map some) : Cl X m' w := ⟨h.1.pick is hi he, h.2⟩
theorem Has.pickA {A B E : Mem} {w : World} (is : List Nat) (h : Has (A ++ E) w) (hi : is.Nodup) (he : is.map (A[·]?) = B.map some) : Has (B ++ E) w := by
  have hm : ∀ x ∈ B, x ∈ A := fun x hx => by
    have : some x ∈ is.map (A[·]?) := by rw [he]; exact List.mem_map_of_mem hx
    obtain ⟨j, _, e⟩ := List.mem_map.1 this
    exact List.mem_of_getElem? e
  have hn := h.ne
  rw [List.map_append] at hn
  obtain ⟨hn1, hn2, hn3⟩ := List.nodup_append.1 hn
  refine ⟨?_, fun x hx => h.blk x ?_⟩
  · rw [List.map_append]
    refine List.nodup_append.2 ⟨?_, hn2, fun a ha b hb => hn3 a ?_ b hb⟩
    · refine nodup_pick is (A.map (·.1)) _ hn1 hi ?_
      have := congrArg (List.map (Option.map (fun x : Nat × List Value × Bk => x.1))) he
      simpa [Function.comp_def] using this
    · obtain ⟨x, hx, e⟩ := List.mem_map.1 ha
      exact List.mem_map.2 ⟨x, hm x hx, e⟩
  · rcases List.mem_append.1 hx with hx | hx
    · exact List.mem_append_left _ (hm x hx)
    · exact List.mem_append_right _ hx
theorem Cl.pickA {X : Cx} {A B E : Mem} {w : World} (is : List Nat) (h : Cl X (A ++ E) w) (hi : is.Nodup) (he : is.map (A[·]?) = B.map some) : Cl X (B ++ E) w := ⟨h.1.pickA is hi he, h.2⟩
end Go.Rx
