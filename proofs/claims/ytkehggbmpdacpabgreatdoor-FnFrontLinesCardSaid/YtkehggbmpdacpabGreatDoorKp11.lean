/- The page laws: texts that all of them use, joined (part 11): Pg29, Pg30, Pg31, Pg32. -/
import Derived.Test.YtkehggbmpdacpabGreatDoorKp10
set_option maxRecDepth 100000
set_option linter.unusedVariables false
set_option linter.unusedSimpArgs false
set_option linter.unusedSectionVars false
namespace Go.Proofs.YtkehggbmpdacpabGreatDoor.Pg
open Go.Rx hiding bt
open Go.RowKit Go.Proofs.YtkehggbmpdacpabGreatDoor.Dec0 Go.Proofs.YtkehggbmpdacpabGreatDoor.Lex0
def secA (S : Sec) (l : List Int) : Sec := { S with kn := l.length, kcs := intsV l ++ S.kcs.drop l.length }
structure SecR (S S' : Sec) : Prop where
  gh : S'.gh = S.gh
  g1 : S'.g1 = S.g1
  g2 : S'.g2 = S.g2
  gk : S'.gk = S.gk
  kc : S'.kc = S.kc
  kl : S'.kcs.length = S.kcs.length
  dv : S'.dv = S.dv
theorem SecR.rfl' {S : Sec} : SecR S S := ⟨rfl, rfl, rfl, rfl, rfl, rfl, rfl⟩
theorem SecR.trans {S S' S'' : Sec} (a : SecR S S') (b : SecR S' S'') : SecR S S'' := ⟨b.gh.trans a.gh, b.g1.trans a.g1, b.g2.trans a.g2, b.gk.trans a.gk, b.kc.trans a.kc, b.kl.trans a.kl, b.dv.trans a.dv⟩
structure SecOk (s : T) (x : Lx) (S : Sec) : Prop where
  al : S.all = true → found s S.dv x = none
  a1 : S.s1 = true → idx lsc (s.drop x.pos) = none
  a2 : S.dv = true → S.s2 = true → idxD s x = none
  kc : S.kc = bif S.dv then 2 else 1
  kl : S.kcs.length = S.kc
theorem found_eq (s : T) (dv : Bool) (x : Lx) : found s dv x = mn (idx lsc (s.drop x.pos)) (if dv then idxD s x else none) := by
  unfold found dvOn idxD
  cases dv <;> cases x.chk <;> rfl
theorem mn_none (a : Option Nat) : mn a none = a := by cases a <;> rfl
theorem minS_first (a : Nat) : minS (-1) a = a := by
  show (if (a : Int) < 0 then (-1 : Int) else if (-1 : Int) = -1 then (a : Int) else _) = a
  rw [if_neg (by omega), if_pos rfl]
theorem minL_one (a : Nat) : minL [(a : Int)] = a := minS_first a
theorem minL_two (a b : Nat) : minL [(a : Int), (b : Int)] = (min a b : Nat) := by
  show minS (minS (-1) a) b = _
  rw [minS_first]
  unfold minS
  rw [if_neg (by omega), if_neg (by omega)]
  split <;> omega
theorem skb_calls {X : Cx} {H : Hd} {G : Mem} (hX : Ok X H) {b : Bool} {S : Sec} (hdv : S.dv = b) (hSm : SecMay X H S) {x : Lx} {q : RS} (hp : x.pos ≤ H.s.length) (hs1 : S.s1 = true → idx lsc (H.s.drop x.pos) = none) (st : Value) (W gd : Nat) : ∀ w, Cl X (cM H x st W gd q (secD b H S) G) w →
    Calls Tryz.prog 98 #[.pointer (some ⟨S.g1, 0, none⟩)] w fun e w' => e = .returned (.int .i64 (optI (idx lsc (H.s.drop x.pos)))) ∧ Cl X (cM H x st W gd q (secD b H { S with s1 := (idx lsc (H.s.drop x.pos)).isNone }) G) w' := by
  intro w hw
  have := hskip1_calls hX hSm hp hs1 st W gd w (by rw [secM_eq hdv]; exact hw)
  rw [secM_eq (S := { S with s1 := (idx lsc (H.s.drop x.pos)).isNone }) hdv] at this
  exact this
theorem skd_calls {X : Cx} {H : Hd} {G : Mem} (hX : Ok X H) {S : Sec} (hdv : S.dv = true) (hSm : SecMay X H S) {x : Lx} {q : RS} (hp : x.pos ≤ H.s.length) (hs2 : S.s2 = true → idxD H.s x = none) (st : Value) (W gd : Nat) : ∀ w, Cl X (cM H x st W gd q (secD true H S) G) w →
    Calls Tryz.prog 98 #[.pointer (some ⟨S.g2, 0, none⟩)] w fun e w' => e = .returned (.int .i64 (optI (idxD H.s x))) ∧ Cl X (cM H x st W gd q (secD true H { S with s2 := (idxD H.s x).isNone }) G) w' := by
  intro w hw
  have := hskip2_calls hX hSm hdv hp hs2 st W gd w (by rw [secM_eq hdv]; exact hw)
  rw [secM_eq (S := { S with s2 := (idxD H.s x).isNone }) hdv] at this
  exact this
theorem secA_may {X : Cx} {H : Hd} {S : Sec} (h : SecMay X H S) (l : List Int) (hl : l.length ≤ S.kc) : SecMay X H (secA S l) := ⟨h.s, h.m1, h.m2, h.my, by
  show (intsV l ++ S.kcs.drop l.length).length = S.kc
  rw [List.length_append, List.length_drop, h.kl, show (intsV l).length = l.length from List.length_map _]
  omega, h.kx⟩
theorem secA_r {S : Sec} {l : List Int} (hl : l.length ≤ S.kcs.length) (a b c : Bool) : SecR S { secA S l with all := a, s1 := b, s2 := c } := ⟨rfl, rfl, rfl, rfl, rfl, by
  show (intsV l ++ S.kcs.drop l.length).length = _
  rw [List.length_append, List.length_drop, show (intsV l).length = l.length from List.length_map _]
  omega, rfl⟩
theorem row_skip {w : World} {g n c : Nat} {l : List Int} {cs rest : List Value} (h : BlkAt w g cs (.c 3)) (hc : cs = intsV l ++ rest) (hn : n = l.length) : RowAt (fun _ => False) w (.slice (some ⟨g, 0, none⟩) n c) l.length (intsV l) := by
  subst hn
  subst hc
  refine ⟨_, _, rfl, fun j u hj => ⟨_, rfl, fun h => h, ?_⟩⟩
  have hb : w.heap[g]? = some (.cells (intsV l ++ rest).toArray 3 (0, 0)) := h
  rw [add_lit]
  simp only [World.cell?, hb]
  rw [List.getElem?_toArray, List.getElem?_append_left (List.getElem?_eq_some_iff.1 hj).1, hj]
  simp
theorem one_int {k : IntKind} {i : Int} : ∀ u ∈ [Value.int k i], u.oneCell' = true := fun u hu => by
  rw [List.mem_singleton.1 hu]
  rfl
def boolS (o : Option Nat) : Bool := !o.isNone
def optL : Option Nat → List Int
  | none => []
  | some k => [(k : Int)]
def secF (S : Sec) (o : Option Nat) : Nat → Sec
  | 0 => secA S []
  | _ => { secA S (optL o) with s1 := o.isNone }
def bolF (o : Option Nat) : Nat → Bool
  | 0 => false
  | _ => boolS o
set_option maxHeartbeats 1000000 in
theorem skipF_calls {X : Cx} {H : Hd} {G : Mem} (hX : Ok X H) {S : Sec} (hSm : SecMay X H S) (hdv : S.dv = false) {x : Lx} {q : RS} (hp : x.pos ≤ H.s.length) (hok : SecOk H.s x S) (st : Value) (W gd : Nat) : ∀ w, Cl X (cM H x st W gd q (secM H S) G) w →
    Calls Tryz.prog 83 #[pS H] w fun e w' => ∃ S', e = .returned (.int .i64 (optI (found H.s false x))) ∧ Cl X (cM H x st W gd q (secM H S') G) w' ∧ SecR S S' ∧ SecOk H.s x S' ∧ (S'.all = false → S'.s1 = (idx lsc (H.s.drop x.pos)).isNone) := by
  intro w hw
  rw [secM_eq (S := S) hdv] at hw
  refine enterC 53 hw Tryz.func83 rfl rfl (vs := [pS H]) rfl ?_
  replace hX := hX.sub hw 53
  have hSm0 := hSm
  replace hSm := hSm.sub 53 w
  have hs1 := hok.a1
  have hkc : S.kc = 1 := by rw [hok.kc, hdv]; rfl
  have hkl : S.kcs.length = 1 := hok.kl.trans hkc
  have hf : found H.s false x = idx lsc (H.s.drop x.pos) := by rw [found_eq]; exact mn_none _
  conv => arg 2; arg 2; whnf
  rcases (Bool.eq_false_or_eq_true S.all) with hv | hv
  · have hn := hok.al hv
    rw [hdv] at hn
    rw [hn]
    repeat' (first | refine ctrue (congrArg (fun b => some (Value.bool b)) hv) ?_ | first | refine cseq ?_ | refine rtext ?_ | refine cret ?_ | refine tret ?_ | refine jnil ?_ | (first | refine jmv rfl rfl rfl ?_ | refine jy (ynil rfl) rfl rfl ?_ | (show Jo _ (.fieldAddr _ _ _); refine jy (yfield rfl fb136_1 rfl) rfl rfl ?_) | (show Jo _ (.load _ _); refine jy (yload (i := 5) rfl rfl rfl one4) rfl rfl ?_) | refine jas_ rfl rfl rfl ?_))
    exact ret1 rfl rfl rfl (fun w' hw' => ⟨S, rfl, by rw [secM_eq (S := S) hdv]; exact hw.up hw', SecR.rfl', hok, fun h => by rw [hv] at h; cases h⟩)
  obtain ⟨o, ho⟩ : ∃ o, idx lsc (H.s.drop x.pos) = o := ⟨_, rfl⟩
  rw [hf, ho]
  repeat' (first | refine cfalse (congrArg (fun b => some (Value.bool b)) hv) ?_ | first | refine cseq ?_ | refine rtext ?_ | refine cskip ?_ | refine cblk ?_ | refine jnil ?_ | (first | refine jmv rfl rfl rfl ?_ | refine jy (ynil rfl) rfl rfl ?_ | (show Jo _ (.fieldAddr _ _ _); refine jy (yfield rfl (by first | exact fb136_1 | exact fb136_2 | exact fb136_3) rfl) rfl rfl ?_) | (show Jo _ (.load _ _); refine jy (yload (i := 5) rfl rfl rfl one4) rfl rfl ?_) | refine jas_ rfl rfl rfl ?_ | (show Jo _ (.store _ _ _); refine jstore (i := 5) rfl rfl rfl rfl rfl si4 hSm.s ?_) | (show Jo _ (.call _); ((show Jo _ (.call ⟨.builtin .len, _, _⟩); refine jy (ylenl rfl und133) rfl rfl ?_))) | (show Jo _ (.slice 111 _ none (some _) none); refine jy (yslH (n := 0) rfl rfl und134 sz3 rfl (Nat.zero_le _)) rfl rfl ?_)))
  refine fin (f' := [(0, pS H), (3, .bool (bolF o 0)), (22, .slice (some ⟨S.gh, 0, none⟩) 1 2), (23, .int .i64 (1 : Nat)), (24, .int .i64 (0 : Nat))]) (m' := cM H x st W gd q (secD false H (secF S o 0)) G)
    (cloop (ι := Nat) (fun j => [(0, pS H), (3, .bool (bolF o j)), (22, .slice (some ⟨S.gh, 0, none⟩) 1 2), (23, .int .i64 (1 : Nat)), (24, .int .i64 (j : Nat))]) (fun j => cM H x st W gd q (secD false H (secF S o j)) G) (fun n j => n = 1 - j ∧ j ≤ 1) 1 0 ⟨rfl, Nat.zero_le _⟩ ?_) ⟨rfl, rfl, rfl, rfl, rfl, trivial⟩ rfl
  rintro n j ⟨rfl, hj⟩ K hK
  match j, hj with
  | 0, _ =>
    have hk := hK 0 1 (by omega) ⟨rfl, Nat.le_refl _⟩
    cases o with
    | none =>
      have hz : optI none = -1 := rfl
      repeat' (first | refine cseq ?_ | refine rtext ?_ | refine ctrue rfl ?_ | refine cfalse rfl ?_ | refine cskip ?_ | refine cblk ?_ | refine tnorm ?_ | refine jnil ?_ | (first | refine jmv rfl rfl rfl ?_ | (show Jo _ (.load _ _); refine jy (yload (i := 6) rfl rfl rfl one4) rfl rfl ?_) | refine jas_ rfl rfl rfl ?_ | (show Jo _ (.binOp _ _ _ _ _); first | (show Jo (some 42) (.binOp .add _ _ _ _); (refine jy (yadd (c := ((1 : Nat) : Int)) rfl rfl (by rw [i64_in (by omega) (by omega)]; omega)) rfl rfl ?_)) | (show Jo _ (.binOp .neq _ _ _ _); refine jy (yneq rfl rfl (by (exact decide_eq_false (by omega)))) rfl rfl ?_) | refine jy (ylss rfl rfl (by (exact decide_eq_true (by omega)))) rfl rfl ?_) | (show Jo _ (.call _); ((show Jo _ (.call ⟨.value (.func 98), _, _⟩); refine jcall0 (v := .int .i64 (optI (idx lsc (H.s.drop x.pos)))) (cM H x st W gd q (secD false H { secA S [] with s1 := (idx lsc (H.s.drop x.pos)).isNone }) G) bo120 rfl rfl rfl (skb_calls (S := secA S []) hX hdv (secA_may hSm [] (Nat.zero_le _)) hp hs1 st W gd) ?_; rw [ho]))) | (show Jo _ (.indexAddr 110 _ _); refine jy (yat (p' := ⟨S.gh, 0, none⟩) rfl rfl und133 sz137 (by omega) (by omega) rfl) rfl rfl ?_)))
      exact fin hk ⟨rfl, rfl, rfl, rfl, rfl, trivial⟩ rfl
    | some a1 =>
      have hz : optI (some a1) = a1 := rfl
      repeat' (first | refine cseq ?_ | refine rtext ?_ | refine ctrue rfl ?_ | refine cskip ?_ | refine cblk ?_ | refine tnorm ?_ | refine jnil ?_ | (first | refine jmv rfl rfl rfl ?_ | refine jy (ynil rfl) rfl rfl ?_ | (show Jo _ (.fieldAddr _ _ _); refine jy (yfield rfl fb136_3 rfl) rfl rfl ?_) | (show Jo _ (.load _ _); first | refine jy (yload (i := 5) rfl rfl rfl one4) rfl rfl ?_ | refine jy (yload (i := 6) rfl rfl rfl one4) rfl rfl ?_) | refine jas_ rfl rfl rfl ?_ | (show Jo _ (.binOp _ _ _ _ _); first | (show Jo (some 42) (.binOp .add _ _ _ _); (refine jy (yadd (c := ((1 : Nat) : Int)) rfl rfl (by rw [i64_in (by omega) (by omega)]; omega)) rfl rfl ?_)) | (show Jo _ (.binOp .neq _ _ _ _); refine jy (yneq rfl rfl (by (exact decide_eq_true (by omega)))) rfl rfl ?_) | refine jy (ylss rfl rfl (by (exact decide_eq_true (by omega)))) rfl rfl ?_) | (show Jo _ (.store _ _ _); refine jstore (i := 6) rfl rfl rfl rfl rfl si4 hSm.s ?_) | (show Jo _ (.call _); first | (show Jo _ (.call ⟨.value (.func 98), _, _⟩); refine jcall0 (v := .int .i64 (optI (idx lsc (H.s.drop x.pos)))) (cM H x st W gd q (secD false H { secA S [] with s1 := (idx lsc (H.s.drop x.pos)).isNone }) G) bo120 rfl rfl rfl (skb_calls (S := secA S []) hX hdv (secA_may hSm [] (Nat.zero_le _)) hp hs1 st W gd) ?_; rw [ho]) | (show Jo _ (.call ⟨.builtin .append, _, _⟩); refine jappendIn (i := 9) (size := 1) (n := 0) (k := 1) (cap := S.kc) (c := S.kcs) (news := [.int .i64 (a1 : Nat)]) rfl rfl rfl (src_blk (i := 0) 0 rfl (add_zero _) (fun j u hj => by rw [Nat.zero_add]; exact hj)) rfl one_int hSm.my gr134 (by omega) (by omega) (c' := .int .i64 (a1 : Nat) :: S.kcs.drop 1) rfl rfl ?_)) | (show Jo _ (.indexAddr 110 _ _); refine jy (yat (p' := ⟨S.gh, 0, none⟩) rfl rfl und133 sz137 (by omega) (by omega) rfl) rfl rfl ?_) | (show Jo _ (.buildSlice 111 _ _); refine jlitN (n := 1) (vs := [.int .i64 (a1 : Nat)]) rfl rfl rfl rfl gr134 rfl rfl rfl rfl (fun g hT => ?_))))
      exact finS hk ⟨rfl, rfl, rfl, rfl, rfl, trivial⟩ (List.sublist_cons_self _ _)
  | 1, _ =>
    cases o with
    | none =>
      repeat' (first | refine cseq ?_ | refine rtext ?_ | refine ctrue rfl ?_ | refine cfalse rfl ?_ | refine cret ?_ | refine cexit ?_ | refine tret ?_ | refine jnil ?_ | (first | refine jmv rfl rfl rfl ?_ | refine jy (ynil rfl) rfl rfl ?_ | (show Jo _ (.fieldAddr _ _ _); refine jy (yfield rfl fb136_1 rfl) rfl rfl ?_) | refine jas_ rfl rfl rfl ?_ | (show Jo _ (.binOp _ _ _ _ _); refine jy (ylss rfl rfl (by (exact decide_eq_false (by omega)))) rfl rfl ?_) | (show Jo _ (.store _ _ _); refine jstore (i := 5) rfl rfl rfl rfl rfl si4 hSm.s ?_) | refine jy (ynot rfl rfl) rfl rfl ?_))
      exact ret1 rfl rfl rfl (fun w' hw' => ⟨{ secA S [] with s1 := true, all := true }, rfl, by rw [secM_eq (S := { secA S [] with s1 := true, all := true }) hdv]; exact hw.up hw', ⟨rfl, rfl, rfl, rfl, rfl, rfl, rfl⟩, ⟨fun _ => by rw [show ({ secA S [] with s1 := true, all := true } : Sec).dv = false from hdv, hf, ho], fun _ => ho, (fun h => by rw [show ({ secA S [] with s1 := true, all := true } : Sec).dv = false from hdv] at h; cases h), hok.kc, hok.kl⟩, (fun h => by cases h)⟩)
    | some a1 =>
      obtain ⟨o, hov⟩ : ∃ o, o = some a1 := ⟨_, rfl⟩
      rw [← hov] at ho ⊢
      have hl1 : (intsV (optL o) ++ S.kcs.drop 1).length = S.kcs.length := by
        rw [hov, List.length_append, List.length_drop]
        show 1 + _ = _
        omega
      have hbo : bolF o 1 = true := by rw [hov]; rfl
      repeat' (first | refine cfalse (congrArg (fun b => some (Value.bool (!b))) hbo) ?_ | first | refine cseq ?_ | refine rtext ?_ | refine cfalse rfl ?_ | refine cskip ?_ | refine cret ?_ | refine cexit ?_ | refine jnil ?_ | (first | refine jmv rfl rfl rfl ?_ | refine jy (ynil rfl) rfl rfl ?_ | (show Jo _ (.fieldAddr _ _ _); refine jy (yfield rfl fb136_3 rfl) rfl rfl ?_) | (show Jo _ (.load _ _); refine jy (yload (i := 5) rfl rfl rfl one4) rfl rfl ?_) | refine jas_ rfl rfl rfl ?_ | (show Jo _ (.binOp _ _ _ _ _); refine jy (ylss rfl rfl (by (exact decide_eq_false (by omega)))) rfl rfl ?_) | refine jy (ynot rfl rfl) rfl rfl ?_ | (show Jo _ (.call _); ((show Jo _ (.call ⟨.value (.func 99), _, _⟩); refine jcall0 (v := .int .i64 (minL (optL o))) (cM H x st W gd q (secD false H { secA S (optL o) with s1 := o.isNone }) G) bo121 rfl rfl rfl (quietC fun w hw => minIndex_calls (row_skip (hw.1.at (i := 8) rfl) (by rw [hov]; rfl) (by rw [hov]; rfl)) (by rw [hov]; simp [optL])) ?_)))))
      exact ret1 rfl rfl rfl (fun w' hw' => ⟨{ secA S (optL o) with s1 := o.isNone }, by rw [hov]; exact congrArg (fun z => Ending.returned (Value.int .i64 z)) (minL_one a1), by rw [secM_eq (S := { secA S (optL o) with s1 := o.isNone }) hdv]; exact hw.up hw', secA_r (by rw [hov]; show 1 ≤ _; omega) _ _ _,
        ⟨(fun h => by rw [show ({ secA S (optL o) with s1 := o.isNone } : Sec).all = S.all from rfl, hv] at h; cases h), (fun h => by rw [ho]; exact Option.isNone_iff_eq_none.1 h), (fun h => by rw [show ({ secA S (optL o) with s1 := o.isNone } : Sec).dv = false from hdv] at h; cases h), hok.kc, (secA_r (S := S) (l := optL o) (by rw [hov]; show 1 ≤ _; omega) S.all o.isNone S.s2).kl.trans hok.kl⟩, fun _ => rfl⟩)
def secT (S : Sec) (o1 o2 : Option Nat) : Nat → Sec
  | 0 => secA S []
  | 1 => { secA S (optL o1) with s1 := o1.isNone }
  | _ => { secA S (optL o1 ++ optL o2) with s1 := o1.isNone, s2 := o2.isNone }
def bolT (o1 o2 : Option Nat) : Nat → Bool
  | 0 => false
  | 1 => boolS o1
  | _ => boolS o1 || boolS o2
theorem secT_may {X : Cx} {H : Hd} {S : Sec} (h : SecMay X H S) (o : Option Nat) (hl : 2 ≤ S.kc) : SecMay X H { secA S (optL o) with s1 := o.isNone } :=
  have := secA_may h (optL o) (by cases o <;> show _ ≤ S.kc <;> simp [optL] <;> omega)
  ⟨this.s, this.m1, this.m2, this.my, this.kl, this.kx⟩
theorem skipT_end {H : Hd} {S : Sec} {x : Lx} (hdv : S.dv = true) (hok : SecOk H.s x S) (hv : S.all = false) (o1 o2 : Option Nat) (ho1 : idx lsc (H.s.drop x.pos) = o1) (ho2 : idxD H.s x = o2) (hl : 2 ≤ S.kcs.length) :
    SecR S (secT S o1 o2 2) ∧ SecOk H.s x (secT S o1 o2 2) := by
  have hr := secA_r (S := S) (l := optL o1 ++ optL o2) (by cases o1 <;> cases o2 <;> simp [optL] <;> omega) S.all o1.isNone o2.isNone
  refine ⟨hr, fun h => ?_, fun h => ?_, fun _ h => ?_, hok.kc, hr.kl.trans hok.kl⟩
  · rw [show (secT S o1 o2 2).all = S.all from rfl, hv] at h
    cases h
  · rw [ho1]; exact Option.isNone_iff_eq_none.1 h
  · rw [ho2]; exact Option.isNone_iff_eq_none.1 h
set_option maxHeartbeats 2000000 in
theorem skipT_calls {X : Cx} {H : Hd} {G : Mem} (hX : Ok X H) {S : Sec} (hSm : SecMay X H S) (hdv : S.dv = true) {x : Lx} {q : RS} (hp : x.pos ≤ H.s.length) (hok : SecOk H.s x S) (st : Value) (W gd : Nat) : ∀ w, Cl X (cM H x st W gd q (secM H S) G) w →
    Calls Tryz.prog 83 #[pS H] w fun e w' => ∃ S', e = .returned (.int .i64 (optI (found H.s true x))) ∧ Cl X (cM H x st W gd q (secM H S') G) w' ∧ SecR S S' ∧ SecOk H.s x S' ∧ (S'.all = false → S'.s1 = (idx lsc (H.s.drop x.pos)).isNone ∧ S'.s2 = (idxD H.s x).isNone) := by
  intro w hw
  rw [secM_eq (S := S) hdv] at hw
  refine enterC 53 hw Tryz.func83 rfl rfl (vs := [pS H]) rfl ?_
  replace hX := hX.sub hw 53
  have hSm0 := hSm
  replace hSm := hSm.sub 53 w
  have hs1 := hok.a1
  have hs2 := hok.a2 hdv
  have hkc : S.kc = 2 := by rw [hok.kc, hdv]; rfl
  have hkl : S.kcs.length = 2 := hok.kl.trans hkc
  obtain ⟨u1, u2, hu⟩ : ∃ u1 u2, S.kcs = [u1, u2] := by
    match hS : S.kcs, hkl with
    | [a, b], _ => exact ⟨a, b, rfl⟩
  have hf : found H.s true x = mn (idx lsc (H.s.drop x.pos)) (idxD H.s x) := by rw [found_eq]; rfl
  conv => arg 2; arg 2; whnf
  rcases (Bool.eq_false_or_eq_true S.all) with hv | hv
  · have hn := hok.al hv
    rw [hdv] at hn
    rw [hn]
    repeat' (first | refine ctrue (congrArg (fun b => some (Value.bool b)) hv) ?_ | first | refine cseq ?_ | refine rtext ?_ | refine cret ?_ | refine tret ?_ | refine jnil ?_ | (first | refine jmv rfl rfl rfl ?_ | refine jy (ynil rfl) rfl rfl ?_ | (show Jo _ (.fieldAddr _ _ _); refine jy (yfield rfl fb136_1 rfl) rfl rfl ?_) | (show Jo _ (.load _ _); refine jy (yload (i := 5) rfl rfl rfl one4) rfl rfl ?_) | refine jas_ rfl rfl rfl ?_))
    exact ret1 rfl rfl rfl (fun w' hw' => ⟨S, rfl, by rw [secM_eq (S := S) hdv]; exact hw.up hw', SecR.rfl', hok, fun h => by rw [hv] at h; cases h⟩)
  have hcall1 : ∀ w', Cl (X.sub 53 w) (cM H x st W gd q (secD true H (secA S [])) G) w' → Calls Tryz.prog 98 #[.pointer (some ⟨S.g1, 0, none⟩)] w' fun e w'' => e = .returned (.int .i64 (optI (idx lsc (H.s.drop x.pos)))) ∧ Cl (X.sub 53 w) (cM H x st W gd q (secD true H { secA S [] with s1 := (idx lsc (H.s.drop x.pos)).isNone }) G) w'' :=
    skb_calls (S := secA S []) hX hdv (secA_may hSm [] (Nat.zero_le _)) hp hs1 st W gd
  have hcall2 : ∀ o : Option Nat, ∀ w', Cl (X.sub 53 w) (cM H x st W gd q (secD true H { secA S (optL o) with s1 := o.isNone }) G) w' → Calls Tryz.prog 98 #[.pointer (some ⟨S.g2, 0, none⟩)] w' fun e w'' => e = .returned (.int .i64 (optI (idxD H.s x))) ∧ Cl (X.sub 53 w) (cM H x st W gd q (secD true H { secA S (optL o) with s1 := o.isNone, s2 := (idxD H.s x).isNone }) G) w'' :=
    fun o => skd_calls (S := { secA S (optL o) with s1 := o.isNone }) hX hdv (secT_may hSm o (by omega)) hp hs2 st W gd
  obtain ⟨o1, ho1⟩ : ∃ o, idx lsc (H.s.drop x.pos) = o := ⟨_, rfl⟩
  obtain ⟨o2, ho2⟩ : ∃ o, idxD H.s x = o := ⟨_, rfl⟩
  rw [hf, ho1, ho2]
  rw [ho1] at hcall1
  rw [ho2] at hcall2
  have hend := skipT_end hdv hok hv o1 o2 ho1 ho2 (by omega)
  have hfn : o1 = none → o2 = none → found H.s S.dv x = none := fun h1 h2 => by rw [hdv, hf, ho1, ho2, h1, h2]; rfl
  repeat' (first | refine cfalse (congrArg (fun b => some (Value.bool b)) hv) ?_ | first | refine cseq ?_ | refine rtext ?_ | refine cskip ?_ | refine cblk ?_ | refine jnil ?_ | (first | refine jmv rfl rfl rfl ?_ | refine jy (ynil rfl) rfl rfl ?_ | (show Jo _ (.fieldAddr _ _ _); refine jy (yfield rfl (by first | exact fb136_1 | exact fb136_2 | exact fb136_3) rfl) rfl rfl ?_) | (show Jo _ (.load _ _); refine jy (yload (i := 5) rfl rfl rfl one4) rfl rfl ?_) | refine jas_ rfl rfl rfl ?_ | (show Jo _ (.store _ _ _); refine jstore (i := 5) rfl rfl rfl rfl rfl si4 hSm.s ?_) | (show Jo _ (.call _); ((show Jo _ (.call ⟨.builtin .len, _, _⟩); refine jy (ylenl rfl und133) rfl rfl ?_))) | (show Jo _ (.slice 111 _ none (some _) none); refine jy (yslH (n := 0) rfl rfl und134 sz3 rfl (Nat.zero_le _)) rfl rfl ?_)))
  refine fin (f' := [(0, pS H), (3, .bool (bolT o1 o2 0)), (22, .slice (some ⟨S.gh, 0, none⟩) 2 2), (23, .int .i64 (2 : Nat)), (24, .int .i64 (0 : Nat))]) (m' := cM H x st W gd q (secD true H (secT S o1 o2 0)) G)
    (cloop (ι := Nat) (fun j => [(0, pS H), (3, .bool (bolT o1 o2 j)), (22, .slice (some ⟨S.gh, 0, none⟩) 2 2), (23, .int .i64 (2 : Nat)), (24, .int .i64 (j : Nat))]) (fun j => cM H x st W gd q (secD true H (secT S o1 o2 j)) G) (fun n j => n = 2 - j ∧ j ≤ 2) 2 0 ⟨rfl, Nat.zero_le _⟩ ?_) ⟨rfl, rfl, rfl, rfl, rfl, trivial⟩ rfl
  rintro n j ⟨rfl, hj⟩ K hK
  match j, hj with
  | 0, _ =>
    have hk := hK 1 1 (by omega) ⟨rfl, by omega⟩
    have hiz : (⟨S.gh, 0, none⟩ : Addr).add (((0 : Nat) : Int).toNat * 1) = ⟨S.gh, 0, none⟩ := rfl
    cases o1 with
    | none =>
      have hz : optI none = -1 := rfl
      have hcz := hcall1
      repeat' (first | refine cseq ?_ | refine rtext ?_ | refine ctrue rfl ?_ | refine cfalse rfl ?_ | refine cskip ?_ | refine cblk ?_ | refine tnorm ?_ | refine jnil ?_ | (first | refine jmv rfl rfl rfl ?_ | (show Jo _ (.load _ _); refine jy (yload (i := 6) rfl rfl rfl one4) rfl rfl ?_) | refine jas_ rfl rfl rfl ?_ | (show Jo _ (.binOp _ _ _ _ _); first | (show Jo (some 42) (.binOp .add _ _ _ _); (refine jy (yadd (c := ((1 : Nat) : Int)) rfl rfl (by rw [i64_in (by omega) (by omega)]; omega)) rfl rfl ?_)) | (show Jo _ (.binOp .neq _ _ _ _); refine jy (yneq rfl rfl (by (exact decide_eq_false (by omega)))) rfl rfl ?_) | refine jy (ylss rfl rfl (by (exact decide_eq_true (by omega)))) rfl rfl ?_) | (show Jo _ (.call _); ((show Jo _ (.call ⟨.value (.func 98), _, _⟩); refine jcall0 _ bo120 rfl rfl rfl hcz ?_))) | (show Jo _ (.indexAddr 110 _ _); refine jy (yat rfl rfl und133 sz137 (by omega) (by omega) hiz) rfl rfl ?_)))
      exact fin hk ⟨rfl, rfl, rfl, rfl, rfl, trivial⟩ rfl
    | some az =>
      have hz : optI (some az) = az := rfl
      have hcz := hcall1
      repeat' (first | refine cseq ?_ | refine rtext ?_ | refine ctrue rfl ?_ | refine cskip ?_ | refine cblk ?_ | refine tnorm ?_ | refine jnil ?_ | (first | refine jmv rfl rfl rfl ?_ | refine jy (ynil rfl) rfl rfl ?_ | (show Jo _ (.fieldAddr _ _ _); refine jy (yfield rfl fb136_3 rfl) rfl rfl ?_) | (show Jo _ (.load _ _); first | refine jy (yload (i := 5) rfl rfl rfl one4) rfl rfl ?_ | refine jy (yload (i := 6) rfl rfl rfl one4) rfl rfl ?_) | refine jas_ rfl rfl rfl ?_ | (show Jo _ (.binOp _ _ _ _ _); first | (show Jo (some 42) (.binOp .add _ _ _ _); (refine jy (yadd (c := ((1 : Nat) : Int)) rfl rfl (by rw [i64_in (by omega) (by omega)]; omega)) rfl rfl ?_)) | (show Jo _ (.binOp .neq _ _ _ _); refine jy (yneq rfl rfl (by (exact decide_eq_true (by omega)))) rfl rfl ?_) | refine jy (ylss rfl rfl (by (exact decide_eq_true (by omega)))) rfl rfl ?_) | (show Jo _ (.store _ _ _); refine jstore (i := 6) rfl rfl rfl rfl rfl si4 hSm.s ?_) | (show Jo _ (.call _); first | (show Jo _ (.call ⟨.value (.func 98), _, _⟩); refine jcall0 _ bo120 rfl rfl rfl hcz ?_) | (show Jo _ (.call ⟨.builtin .append, _, _⟩); (refine jappendIn (i := 9) (size := 1) (n := 0) (k := 1) (cap := S.kc) (c := S.kcs) (news := [.int .i64 (az : Nat)]) rfl rfl rfl (src_blk (i := 0) 0 rfl (add_zero _) (fun j u hj => by rw [Nat.zero_add]; exact hj)) rfl one_int hSm.my gr134 (by omega) (by omega) (c' := .int .i64 (az : Nat) :: S.kcs.drop 1) rfl rfl ?_))) | (show Jo _ (.indexAddr 110 _ _); refine jy (yat rfl rfl und133 sz137 (by omega) (by omega) hiz) rfl rfl ?_) | (show Jo _ (.buildSlice 111 _ _); refine jlitN (n := 1) (vs := [.int .i64 (az : Nat)]) rfl rfl rfl rfl gr134 rfl rfl rfl rfl (fun g hT => ?_))))
      exact finS hk ⟨rfl, rfl, rfl, rfl, rfl, trivial⟩ (List.sublist_cons_self _ _)
  | 1, _ =>
    have hk := hK 0 2 (by omega) ⟨rfl, by omega⟩
    have hiz : (⟨S.gh, 0, none⟩ : Addr).add (((1 : Nat) : Int).toNat * 1) = ⟨S.gh, 1, none⟩ := rfl
    have hcz := hcall2 o1
    have hdd : (S.kcs.drop 1).drop 1 = S.kcs.drop 2 := by rw [List.drop_drop]
    cases o1 with
    | none =>
      cases o2 with
      | none =>
        have hz : optI none = -1 := rfl
        repeat' (first | refine cseq ?_ | refine rtext ?_ | refine ctrue rfl ?_ | refine cfalse rfl ?_ | refine cskip ?_ | refine cblk ?_ | refine tnorm ?_ | refine jnil ?_ | (first | refine jmv rfl rfl rfl ?_ | (show Jo _ (.load _ _); refine jy (yload (i := 6) rfl rfl rfl one4) rfl rfl ?_) | refine jas_ rfl rfl rfl ?_ | (show Jo _ (.binOp _ _ _ _ _); first | (show Jo (some 42) (.binOp .add _ _ _ _); (refine jy (yadd (c := ((2 : Nat) : Int)) rfl rfl (by rw [i64_in (by omega) (by omega)]; omega)) rfl rfl ?_)) | (show Jo _ (.binOp .neq _ _ _ _); refine jy (yneq rfl rfl (by (exact decide_eq_false (by omega)))) rfl rfl ?_) | refine jy (ylss rfl rfl (by (exact decide_eq_true (by omega)))) rfl rfl ?_) | (show Jo _ (.call _); ((show Jo _ (.call ⟨.value (.func 98), _, _⟩); refine jcall0 _ bo120 rfl rfl rfl hcz ?_))) | (show Jo _ (.indexAddr 110 _ _); refine jy (yat rfl rfl und133 sz137 (by omega) (by omega) hiz) rfl rfl ?_)))
        exact fin hk ⟨rfl, rfl, rfl, rfl, rfl, trivial⟩ rfl
      | some az =>
        have hz : optI (some az) = az := rfl
        repeat' (first | refine cseq ?_ | refine rtext ?_ | refine ctrue rfl ?_ | refine cskip ?_ | refine cblk ?_ | refine tnorm ?_ | refine jnil ?_ | (first | refine jmv rfl rfl rfl ?_ | refine jy (ynil rfl) rfl rfl ?_ | (show Jo _ (.fieldAddr _ _ _); refine jy (yfield rfl fb136_3 rfl) rfl rfl ?_) | (show Jo _ (.load _ _); first | refine jy (yload (i := 5) rfl rfl rfl one4) rfl rfl ?_ | refine jy (yload (i := 6) rfl rfl rfl one4) rfl rfl ?_) | refine jas_ rfl rfl rfl ?_ | (show Jo _ (.binOp _ _ _ _ _); first | (show Jo (some 42) (.binOp .add _ _ _ _); (refine jy (yadd (c := ((2 : Nat) : Int)) rfl rfl (by rw [i64_in (by omega) (by omega)]; omega)) rfl rfl ?_)) | (show Jo _ (.binOp .neq _ _ _ _); refine jy (yneq rfl rfl (by (exact decide_eq_true (by omega)))) rfl rfl ?_) | refine jy (ylss rfl rfl (by (exact decide_eq_true (by omega)))) rfl rfl ?_) | (show Jo _ (.store _ _ _); refine jstore (i := 6) rfl rfl rfl rfl rfl si4 hSm.s ?_) | (show Jo _ (.call _); first | (show Jo _ (.call ⟨.value (.func 98), _, _⟩); refine jcall0 _ bo120 rfl rfl rfl hcz ?_) | (show Jo _ (.call ⟨.builtin .append, _, _⟩); (refine jappendIn (i := 9) (size := 1) (n := 0) (k := 1) (cap := S.kc) (c := S.kcs) (news := [.int .i64 (az : Nat)]) rfl rfl rfl (src_blk (i := 0) 0 rfl (add_zero _) (fun j u hj => by rw [Nat.zero_add]; exact hj)) rfl one_int hSm.my gr134 (by omega) (by omega) (c' := .int .i64 (az : Nat) :: S.kcs.drop 1) rfl rfl ?_))) | (show Jo _ (.indexAddr 110 _ _); refine jy (yat rfl rfl und133 sz137 (by omega) (by omega) hiz) rfl rfl ?_) | (show Jo _ (.buildSlice 111 _ _); refine jlitN (n := 1) (vs := [.int .i64 (az : Nat)]) rfl rfl rfl rfl gr134 rfl rfl rfl rfl (fun g hT => ?_))))
        exact finS hk ⟨rfl, rfl, rfl, rfl, rfl, trivial⟩ (List.sublist_cons_self _ _)
    | some a1 =>
      cases o2 with
      | none =>
        have hz : optI none = -1 := rfl
        repeat' (first | refine cseq ?_ | refine rtext ?_ | refine ctrue rfl ?_ | refine cfalse rfl ?_ | refine cskip ?_ | refine cblk ?_ | refine tnorm ?_ | refine jnil ?_ | (first | refine jmv rfl rfl rfl ?_ | (show Jo _ (.load _ _); refine jy (yload (i := 6) rfl rfl rfl one4) rfl rfl ?_) | refine jas_ rfl rfl rfl ?_ | (show Jo _ (.binOp _ _ _ _ _); first | (show Jo (some 42) (.binOp .add _ _ _ _); (refine jy (yadd (c := ((2 : Nat) : Int)) rfl rfl (by rw [i64_in (by omega) (by omega)]; omega)) rfl rfl ?_)) | (show Jo _ (.binOp .neq _ _ _ _); refine jy (yneq rfl rfl (by (exact decide_eq_false (by omega)))) rfl rfl ?_) | refine jy (ylss rfl rfl (by (exact decide_eq_true (by omega)))) rfl rfl ?_) | (show Jo _ (.call _); ((show Jo _ (.call ⟨.value (.func 98), _, _⟩); refine jcall0 _ bo120 rfl rfl rfl hcz ?_))) | (show Jo _ (.indexAddr 110 _ _); refine jy (yat rfl rfl und133 sz137 (by omega) (by omega) hiz) rfl rfl ?_)))
        exact fin hk ⟨rfl, rfl, rfl, rfl, rfl, trivial⟩ rfl
      | some az =>
        have hz : optI (some az) = az := rfl
        repeat' (first | refine cseq ?_ | refine rtext ?_ | refine ctrue rfl ?_ | refine cskip ?_ | refine cblk ?_ | refine tnorm ?_ | refine jnil ?_ | (first | refine jmv rfl rfl rfl ?_ | refine jy (ynil rfl) rfl rfl ?_ | (show Jo _ (.fieldAddr _ _ _); refine jy (yfield rfl fb136_3 rfl) rfl rfl ?_) | (show Jo _ (.load _ _); first | refine jy (yload (i := 5) rfl rfl rfl one4) rfl rfl ?_ | refine jy (yload (i := 6) rfl rfl rfl one4) rfl rfl ?_) | refine jas_ rfl rfl rfl ?_ | (show Jo _ (.binOp _ _ _ _ _); first | (show Jo (some 42) (.binOp .add _ _ _ _); (refine jy (yadd (c := ((2 : Nat) : Int)) rfl rfl (by rw [i64_in (by omega) (by omega)]; omega)) rfl rfl ?_)) | (show Jo _ (.binOp .neq _ _ _ _); refine jy (yneq rfl rfl (by (exact decide_eq_true (by omega)))) rfl rfl ?_) | refine jy (ylss rfl rfl (by (exact decide_eq_true (by omega)))) rfl rfl ?_) | (show Jo _ (.store _ _ _); refine jstore (i := 6) rfl rfl rfl rfl rfl si4 hSm.s ?_) | (show Jo _ (.call _); first | (show Jo _ (.call ⟨.value (.func 98), _, _⟩); refine jcall0 _ bo120 rfl rfl rfl hcz ?_) | (show Jo _ (.call ⟨.builtin .append, _, _⟩); (refine jappendIn (i := 9) (size := 1) (n := 1) (k := 1) (cap := S.kc) (c := .int .i64 (a1 : Nat) :: S.kcs.drop 1) (news := [.int .i64 (az : Nat)]) rfl rfl rfl (src_blk (i := 0) 0 rfl (add_zero _) (fun j u hj => by rw [Nat.zero_add]; exact hj)) rfl one_int hSm.my gr134 (by omega) (by rw [List.length_cons, List.length_drop]; omega) (c' := .int .i64 (a1 : Nat) :: .int .i64 (az : Nat) :: S.kcs.drop 2) (by exact congrArg (fun l => Value.int .i64 (a1 : Nat) :: .int .i64 (az : Nat) :: l) hdd) rfl ?_))) | (show Jo _ (.indexAddr 110 _ _); refine jy (yat rfl rfl und133 sz137 (by omega) (by omega) hiz) rfl rfl ?_) | (show Jo _ (.buildSlice 111 _ _); refine jlitN (n := 1) (vs := [.int .i64 (az : Nat)]) rfl rfl rfl rfl gr134 rfl rfl rfl rfl (fun g hT => ?_))))
        exact finS hk ⟨rfl, rfl, rfl, rfl, rfl, trivial⟩ (List.sublist_cons_self _ _)
  | 2, _ =>
    rcases (Bool.eq_false_or_eq_true (bolT o1 o2 2)).symm with hb | hb
    · have o1n : o1 = none := by
        rcases o1 with _ | a1
        · rfl
        · cases hb
      have o2n : o2 = none := by
        rcases o2 with _ | a1
        · rfl
        · rcases o1 with _ | a2 <;> cases hb
      subst o1n o2n
      repeat' (first | refine cseq ?_ | refine rtext ?_ | refine ctrue rfl ?_ | refine cfalse rfl ?_ | refine cret ?_ | refine cexit ?_ | refine tret ?_ | refine jnil ?_ | (first | refine jmv rfl rfl rfl ?_ | refine jy (ynil rfl) rfl rfl ?_ | (show Jo _ (.fieldAddr _ _ _); refine jy (yfield rfl fb136_1 rfl) rfl rfl ?_) | refine jas_ rfl rfl rfl ?_ | (show Jo _ (.binOp _ _ _ _ _); refine jy (ylss rfl rfl (by (exact decide_eq_false (by omega)))) rfl rfl ?_) | (show Jo _ (.store _ _ _); refine jstore (i := 5) rfl rfl rfl rfl rfl si4 hSm.s ?_) | refine jy (ynot rfl rfl) rfl rfl ?_))
      exact ret1 rfl rfl rfl (fun w' hw' => ⟨{ secT S none none 2 with all := true }, rfl, by rw [secM_eq (S := { secT S none none 2 with all := true }) hdv]; exact hw.up hw', ⟨rfl, rfl, rfl, rfl, rfl, rfl, rfl⟩, ⟨fun _ => hfn rfl rfl, fun _ => ho1, fun _ _ => ho2, hok.kc, hok.kl⟩, (fun h => by cases h)⟩)
    · have hll : (optL o1 ++ optL o2).length ≤ 2 := by cases o1 <;> cases o2 <;> simp [optL]
      have hmin : ∀ w', Cl (X.sub 53 w) (cM H x st W gd q (secD true H (secT S o1 o2 2)) G) w' → Calls Tryz.prog 99 #[.slice (some ⟨S.gk, 0, none⟩) (optL o1 ++ optL o2).length S.kc] w' fun e w'' => e = .returned (.int .i64 (minL (optL o1 ++ optL o2))) ∧ Cl (X.sub 53 w) (cM H x st W gd q (secD true H (secT S o1 o2 2)) G) w'' :=
        quietC fun w hw => minIndex_calls (row_skip (hw.1.at (i := 8) rfl) rfl rfl) (by omega)
      have hmv : minL (optL o1 ++ optL o2) = optI (mn o1 o2) := by
        rcases o1 with _ | a1
        · rcases o2 with _ | a2
          · cases hb
          · exact minL_one a2
        · rcases o2 with _ | a2
          · exact minL_one a1
          · exact minL_two a1 a2
      rw [← hmv]
      repeat' (first | refine cfalse (congrArg (fun b => some (Value.bool (!b))) hb) ?_ | first | refine cseq ?_ | refine rtext ?_ | refine cfalse rfl ?_ | refine cskip ?_ | refine cret ?_ | refine cexit ?_ | refine jnil ?_ | (first | refine jmv rfl rfl rfl ?_ | refine jy (ynil rfl) rfl rfl ?_ | (show Jo _ (.fieldAddr _ _ _); refine jy (yfield rfl fb136_3 rfl) rfl rfl ?_) | (show Jo _ (.load _ _); refine jy (yload (i := 5) rfl rfl rfl one4) rfl rfl ?_) | refine jas_ rfl rfl rfl ?_ | (show Jo _ (.binOp _ _ _ _ _); refine jy (ylss rfl rfl (by (exact decide_eq_false (by omega)))) rfl rfl ?_) | refine jy (ynot rfl rfl) rfl rfl ?_ | (show Jo _ (.call _); ((show Jo _ (.call ⟨.value (.func 99), _, _⟩); refine jcall0 _ bo121 rfl rfl rfl hmin ?_)))))
      exact ret1 rfl rfl rfl (fun w' hw' => ⟨secT S o1 o2 2, rfl, by rw [secM_eq (S := secT S o1 o2 2) hdv]; exact hw.up hw', hend.1, hend.2, fun _ => ⟨rfl, rfl⟩⟩)
theorem skip_calls {X : Cx} {H : Hd} {G : Mem} (hX : Ok X H) {S : Sec} (hSm : SecMay X H S) {x : Lx} {q : RS} (hp : x.pos ≤ H.s.length) (hok : SecOk H.s x S) (st : Value) (W gd : Nat) : ∀ w, Cl X (cM H x st W gd q (secM H S) G) w →
    Calls Tryz.prog 83 #[pS H] w fun e w' => ∃ S', e = .returned (.int .i64 (optI (found H.s S.dv x))) ∧ Cl X (cM H x st W gd q (secM H S') G) w' ∧ SecR S S' ∧ SecOk H.s x S' ∧ (S'.all = false → S'.s1 = (idx lsc (H.s.drop x.pos)).isNone ∧ (S.dv = true → S'.s2 = (idxD H.s x).isNone)) := by
  intro w hw
  rcases (Bool.eq_false_or_eq_true S.dv).symm with hdv | hdv
  · rw [hdv]
    exact (skipF_calls hX hSm hdv hp hok st W gd w hw).mono fun e w' ⟨S', h1, h2, h3, h4, h5⟩ => ⟨S', h1, h2, h3, h4, fun h => ⟨h5 h, fun h => by cases h⟩⟩
  · rw [hdv]
    exact (skipT_calls hX hSm hdv hp hok st W gd w hw).mono fun e w' ⟨S', h1, h2, h3, h4, h5⟩ => ⟨S', h1, h2, h3, h4, fun h => ⟨(h5 h).1, fun _ => (h5 h).2⟩⟩
section
variable {X : Cx} {P : Program} {f : Fr} {m : Mem} {ty : TypeId} {pos : String} {af : Array Edge} {gd : Option (Nat × Bool)} {d : Option Tmp}
def fnB (P : Program) (t : TypeId) : Bool := match P.underlying t with
  | some (.func _ _ _) => true
  | _ => false
def nilF : Value → Option Bool
  | .nilFunc => some true
  | .func _ _ _ => some false
  | _ => none
theorem run_eqF {t : TypeId} {a : Value} {b : Bool} (ht : fnB P t = true) (ha : nilF a = some b) (d : Nat) (w : World) : (Op.equalIn (d + 1) t a .nilFunc).run P w = .ok b w := by
  unfold fnB at ht
  split at ht
  · rename_i hu
    unfold nilF at ha
    split at ha
    · cases ha; simp [Op.equalIn, run_underlying hu]
    · cases ha; simp [Op.equalIn, run_underlying hu]
    · cases ha
  · cases ht
theorem yfe {x y : Operand} {a : Value} {b : Bool} {t t' : TypeId} (hx : evF f x = some a) (hy : evF f y = some .nilFunc) (ht : fnB P t = true) (ha : nilF a = some b) :
    Yl X P f m ⟨d, .binOp .eql t x y t', ty, pos, af, gd⟩ (.bool b) := .of fun w1 w s => by
  have h1 := run_eqF (P := P) ht ha 9999 w
  cases a <;> (cases ha) <;> simp [execOp, s.agr.eval hx, s.agr.eval hy, binOp, eqGuard, Op.equal, Op.maxDepth, h1]
theorem yfn {x y : Operand} {a : Value} {b : Bool} {t t' : TypeId} (hx : evF f x = some a) (hy : evF f y = some .nilFunc) (ht : fnB P t = true) (ha : nilF a = some b) :
    Yl X P f m ⟨d, .binOp .neq t x y t', ty, pos, af, gd⟩ (.bool (!b)) := .of fun w1 w s => by
  have h1 := run_eqF (P := P) ht ha 9999 w
  cases a <;> (cases ha) <;> simp [execOp, s.agr.eval hx, s.agr.eval hy, binOp, eqGuard, Op.equal, Op.maxDepth, h1]
end
theorem fn104 : fnB Tryz.prog 86 = true := by kernel_rfl
def lexR (E : Env) (s : T) (dv : Bool) (x : Lx) : Res := match lex1 E s x with
  | some r => r
  | none => match (if dvOn dv x then lex2 s x else none) with
    | some y => (y, some .main)
    | none => (mv 1 x, some .main)
theorem lexR_err {E : Env} {s : T} {dv : Bool} {x : Lx} (h : (lexR E s dv x).2 = none) : lexR E s dv x = (errI x, none) ∧ piece E s dv x = ({ errI x with pos := s.length }, some .done) := by
  unfold lexR at h ⊢
  unfold lex1 at h ⊢
  unfold piece
  dsimp only
  by_cases hp : (lmd.isPrefixOf (s.drop x.pos) || lno.isPrefixOf (s.drop x.pos)) = true
  · rw [if_pos hp] at h ⊢
    rw [if_pos hp]
    by_cases hi : (x.inl && !inlOk E ((s.drop x.pos).drop 3) x.name) = true
    · rw [if_pos hi, if_pos hi]
      exact ⟨rfl, rfl⟩
    · rw [if_neg hi] at h; cases h
  · rw [if_neg hp] at h
    dsimp only at h
    split at h <;> cases h
theorem lexR_ok {E : Env} {s : T} {dv : Bool} {x : Lx} (h : (lexR E s dv x).2 ≠ none) : piece E s dv x = lexR E s dv x := by
  unfold lexR at h ⊢
  unfold lex1 at h ⊢
  unfold piece
  dsimp only
  by_cases hp : (lmd.isPrefixOf (s.drop x.pos) || lno.isPrefixOf (s.drop x.pos)) = true
  · rw [if_pos hp] at h ⊢
    rw [if_pos hp]
    by_cases hi : (x.inl && !inlOk E ((s.drop x.pos).drop 3) x.name) = true
    · rw [if_pos hi] at h; exact absurd rfl h
    · rw [if_neg hi, if_neg hi]
  · rw [if_neg hp] at h ⊢
    rw [if_neg hp]
    dsimp only
    unfold lex2
    by_cases hd : dvOn dv x = true
    · rw [if_pos hd]
      by_cases hq : (divr x.org).isPrefixOf (s.drop x.pos) = true
      · rw [if_pos hq, if_pos (by rw [hd, hq]; rfl)]
      · rw [if_neg hq, if_neg (by rw [Bool.and_eq_true]; exact fun h => hq h.2)]
    · rw [if_neg hd, if_neg (by rw [Bool.and_eq_true]; exact fun h => hd h.1)]
theorem lex1_cases {E : Env} {s : T} {x : Lx} : lex1 E s x = none ∨ lex1 E s x = some (errI x, none) ∨ lex1 E s x = some ({ x with md := lmd.isPrefixOf (s.drop x.pos) }, some .left) := by
  unfold lex1
  split
  · split
    · exact .inr (.inl rfl)
    · exact .inr (.inr rfl)
  · exact .inl rfl
theorem lexR_1 {E : Env} {s : T} {dv : Bool} {x : Lx} {r : Res} (h : lex1 E s x = some r) : lexR E s dv x = r := by unfold lexR; rw [h]
theorem lexR_2 {E : Env} {s : T} {dv : Bool} {x y : Lx} (h : lex1 E s x = none) (hd : dvOn dv x = true) (h2 : lex2 s x = some y) : lexR E s dv x = (y, some .main) := by unfold lexR; rw [h]; dsimp only; rw [if_pos hd, h2]
theorem lexR_3 {E : Env} {s : T} {dv : Bool} {x : Lx} (h : lex1 E s x = none) (h2 : (if dvOn dv x then lex2 s x else none) = none) : lexR E s dv x = (mv 1 x, some .main) := by unfold lexR; rw [h]; dsimp only; rw [h2]
def FX (H : Hd) (S : Sec) (N j : Nat) : Fr := [(0, pS H), (1, fnV 54), (36, .slice (some ⟨S.gh, 0, none⟩) N 2), (37, .int .i64 (N : Nat)), (38, .int .i64 (j : Nat))]
set_option maxHeartbeats 2000000 in
theorem hlex_end {Z X : Cx} {H : Hd} {G : Mem} {w : World} {m0 : Mem} (hZ : Z = X.sub 77 w) (hw : Cl X m0 w) (hX : Ok Z H) {S : Sec} {b : Bool} {y : Lx} {q : RS} (hS : StOk Z H y q G) (st : Value) (W gd : Nat) (hp1 : y.pos + 1 ≤ H.s.length)
    (h1 : lex1 envT H.s y = none) (h2 : (if dvOn b y then lex2 H.s y else none) = none) :
    PJ Z ((codeOut Tryz.f84 13).wp Tryz.prog (bodyPost Tryz.prog Tryz.f84 fun e w' => ∃ (q' : RS) (W' : Nat), e = .returned (stV (lexR envT H.s b y).2) ∧ Cl X (cM H (lexR envT H.s b y).1 st W' gd q' (secD b H S) G) w' ∧ StOk X H (lexR envT H.s b y).1 q' G)) [(0, pS H), (1, fnV 54)] (cM H y st W gd q (secD b H S) G) := by
  subst hZ
  have hbig := hX.big
  conv => arg 2; arg 2; whnf
  have e1 := lexR_3 (dv := b) h1 h2
  rw [e1]
  cases b
  · repeat' (first | refine cseq ?_ | refine rtext ?_ | refine cret ?_ | refine jnil ?_ | (first | refine jmv rfl rfl rfl ?_ | refine jy (ynil rfl) rfl rfl ?_ | (show Jo _ (.fieldAddr _ _ _); refine jy (yfield rfl (by first | exact fb136_0 | exact fb142_3) rfl) rfl rfl ?_) | (show Jo _ (.load _ _); first | refine jy (yload (i := 0) rfl rfl rfl one3) rfl rfl ?_ | refine jy (yload (i := 5) rfl rfl rfl one3) rfl rfl ?_) | refine jas_ rfl rfl rfl ?_ | (show Jo _ (.binOp _ _ _ _ _); ((show Jo (some 73) (.binOp .add _ _ _ _); refine jy (yadd (c := ((y.pos + 1 : Nat) : Int)) rfl rfl (by dsimp only [lsOf]; rw [i64_in (by omega) (by omega)]; omega)) rfl rfl ?_))) | (show Jo _ (.store _ _ _); refine jstore (i := 0) rfl rfl rfl rfl rfl si3 hX.mL ?_)))
    exact ret1 rfl rfl rfl (fun w' hw' => ⟨q, W, rfl, hw.up hw', (StOk.up hw hS).mv rfl hp1 (Nat.le_succ_of_le (StOk.up hw hS).s)⟩)
  · repeat' (first | refine cseq ?_ | refine rtext ?_ | refine cret ?_ | refine jnil ?_ | (first | refine jmv rfl rfl rfl ?_ | refine jy (ynil rfl) rfl rfl ?_ | (show Jo _ (.fieldAddr _ _ _); refine jy (yfield rfl (by first | exact fb136_0 | exact fb142_3) rfl) rfl rfl ?_) | (show Jo _ (.load _ _); first | refine jy (yload (i := 0) rfl rfl rfl one3) rfl rfl ?_ | refine jy (yload (i := 5) rfl rfl rfl one3) rfl rfl ?_) | refine jas_ rfl rfl rfl ?_ | (show Jo _ (.binOp _ _ _ _ _); ((show Jo (some 73) (.binOp .add _ _ _ _); refine jy (yadd (c := ((y.pos + 1 : Nat) : Int)) rfl rfl (by dsimp only [lsOf]; rw [i64_in (by omega) (by omega)]; omega)) rfl rfl ?_))) | (show Jo _ (.store _ _ _); refine jstore (i := 0) rfl rfl rfl rfl rfl si3 hX.mL ?_)))
    exact ret1 rfl rfl rfl (fun w' hw' => ⟨q, W, rfl, hw.up hw', (StOk.up hw hS).mv rfl hp1 (Nat.le_succ_of_le (StOk.up hw hS).s)⟩)
theorem cz1n {X : Cx} {H : Hd} {F G : Mem} (hX : Ok X H) {x : Lx} {q : RS} (hS : StOk X H x q G) (hf : x.items.length < 999999999000) (hnl : x.name.size ≤ 4611686018427387904) (o : Value) (st : Value) (W gd : Nat) (h : lex1 envT H.s x = none) :
    ∀ w, Cl X (cM H x st W gd q F G) w → Calls Tryz.prog 115 #[o, pL H] w fun e w' => ∃ _ : Unit, e = .returned (.tuple #[o, .bool false]) ∧ Cl X (cM H x st W gd q F G) w' ∧ True := by
  intro w hw
  have := lex1_calls hX hS hf hnl o st W gd w hw
  rw [h] at this
  exact this.mono fun e w' ⟨h1, h2⟩ => ⟨(), h1, h2, trivial⟩
theorem cz1 {X : Cx} {H : Hd} {F G : Mem} (hX : Ok X H) {x : Lx} {q : RS} (hS : StOk X H x q G) (hf : x.items.length < 999999999000) (hnl : x.name.size ≤ 4611686018427387904) (o : Value) (st : Value) (W gd : Nat) {r : Res} (h : lex1 envT H.s x = some r) :
    ∀ w, Cl X (cM H x st W gd q F G) w → Calls Tryz.prog 115 #[o, pL H] w fun e w' => ∃ q' : RS, e = .returned (.tuple #[stV r.2, .bool true]) ∧ Cl X (cM H r.1 st W gd q' F G) w' ∧ StOk X H r.1 q' G := by
  intro w hw
  have := lex1_calls hX hS hf hnl o st W gd w hw
  rw [h] at this
  exact this
theorem cz2n {X : Cx} {H : Hd} {F G : Mem} (hX : Ok X H) {x : Lx} {q : RS} (hS : StOk X H x q G) (hf : x.items.length < 999999999000) (o : Value) (st : Value) (W gd : Nat) (h : lex2 H.s x = none) :
    ∀ w, Cl X (cM H x st W gd q F G) w → Calls Tryz.prog 121 #[o, pL H] w fun e w' => ∃ _ : Unit, e = .returned (.tuple #[o, .bool false]) ∧ Cl X (cM H x st W gd q F G) w' ∧ True := by
  intro w hw
  have := lex2_calls hX hS hf o st W gd w hw
  rw [h] at this
  exact this.mono fun e w' ⟨h1, h2⟩ => ⟨(), h1, h2, trivial⟩
theorem cz2 {X : Cx} {H : Hd} {F G : Mem} (hX : Ok X H) {x : Lx} {q : RS} (hS : StOk X H x q G) (hf : x.items.length < 999999999000) (o : Value) (st : Value) (W gd : Nat) {y : Lx} (h : lex2 H.s x = some y) :
    ∀ w, Cl X (cM H x st W gd q F G) w → Calls Tryz.prog 121 #[o, pL H] w fun e w' => ∃ q' : RS × Nat, e = .returned (.tuple #[o, .bool true]) ∧ Cl X (cM H y st q'.2 gd q'.1 F G) w' ∧ StOk X H y q'.1 G := by
  intro w hw
  have := lex2_calls hX hS hf o st W gd w hw
  rw [h] at this
  exact this.mono fun e w' ⟨q', V, h1, h2, h3⟩ => ⟨(q', V), h1, h2, h3⟩
set_option maxHeartbeats 2000000 in
theorem hlexF {Z X : Cx} {H : Hd} {G : Mem} {w : World} {m0 : Mem} (hZ : Z = X.sub 77 w) (hw : Cl X m0 w) (hX : Ok Z H) {S : Sec} {y : Lx} {q : RS} (hS : StOk Z H y q G) (hf : y.items.length < 999999999000) (hnl : y.name.size ≤ 4611686018427387904) (st : Value) (W gd : Nat) (hp1 : y.pos + 1 ≤ H.s.length)
    (hs1 : S.s1 = true → lex1 envT H.s y = none) :
    PJ Z ((codeOut Tryz.f84 5).wp Tryz.prog (bodyPost Tryz.prog Tryz.f84 fun e w' => ∃ (q' : RS) (W' : Nat), e = .returned (stV (lexR envT H.s false y).2) ∧ Cl X (cM H (lexR envT H.s false y).1 st W' gd q' (secD false H S) G) w' ∧ StOk X H (lexR envT H.s false y).1 q' G)) [(0, pS H), (1, fnV 54)] (cM H y st W gd q (secD false H S) G) := by
  obtain ⟨b, hb⟩ : ∃ b, b = false := ⟨_, rfl⟩
  have hend := fun h1 => hlex_end (b := false) hZ hw hX (S := S) hS st W gd hp1 h1 rfl
  subst hZ
  conv => arg 2; arg 2; whnf
  conv at hend => intro h; arg 2; arg 2; whnf
  repeat' (first | refine cseq ?_ | refine rtext ?_ | refine cblk ?_ | refine jnil ?_ | (first | refine jmv rfl rfl rfl ?_ | refine jy (ynil rfl) rfl rfl ?_ | (show Jo _ (.fieldAddr _ _ _); refine jy (yfield rfl fb136_2 rfl) rfl rfl ?_) | (show Jo _ (.load _ _); refine jy (yload (i := 5) rfl rfl rfl one3) rfl rfl ?_) | (show Jo _ (.call _); ((show Jo _ (.call ⟨.builtin .len, _, _⟩); refine jy (ylenl rfl und133) rfl rfl ?_)))))
  refine fin (f' := FX H S 1 0) (m' := cM H y st W gd q (secD false H S) G) (cloop (ι := Nat) (FX H S 1) (fun _ => cM H y st W gd q (secD false H S) G) (fun n j => n = 1 - j ∧ j ≤ 1 ∧ (1 ≤ j → lex1 envT H.s y = none)) 1 0 ⟨rfl, Nat.zero_le _, fun h => by omega⟩ ?_) ⟨rfl, rfl, rfl, rfl, rfl, trivial⟩ rfl
  rintro n j ⟨rfl, hj, hj1⟩ K hK
  match j, hj, hj1 with
  | 0, _, _ =>
    have hk := fun h => hK 0 1 (by omega) ⟨rfl, Nat.le_refl _, fun _ => h⟩
    have hiz : (⟨S.gh, 0, none⟩ : Addr).add (((0 : Nat) : Int).toNat * 1) = ⟨S.gh, 0, none⟩ := rfl
    rcases (Bool.eq_false_or_eq_true S.s1).symm with hv | hv
    · rcases lex1_cases (E := envT) (s := H.s) (x := y) with hl | hl | hl
      · have hczU := cz1n hX hS hf hnl (fnV 54) st W gd (F := secD false H S) hl
        repeat' (first | refine cfalse (congrArg (fun b => some (Value.bool b)) hv) ?_ | first | (show PJ _ (Code.wp _ _ _) _ _; first | refine cseq ?_ | refine rtext ?_ | refine ctrue rfl ?_ | refine cfalse rfl ?_ | refine cskip ?_ | refine cblk ?_ | (show PJ _ (Code.wp _ (Code.region 9 _ true) _) _ _; refine ranyT 9 [h1B H S] mixed ?_)) | refine tnorm ?_ | refine jnil ?_ | (first | refine jmv rfl rfl rfl ?_ | refine jy (ynil rfl) rfl rfl ?_ | (show Jo _ (.fieldAddr _ _ _); refine jy (yfield rfl fb136_1 rfl) rfl rfl ?_) | (show Jo _ (.load _ _); first | refine jy (yload (i := 6) rfl rfl rfl one3) rfl rfl ?_ | refine jy (yload (i := 7) rfl rfl rfl one3) rfl rfl ?_) | refine jas_ rfl rfl rfl ?_ | (show Jo _ (.binOp _ _ _ _ _); first | (show Jo (some 65) (.binOp .add _ _ _ _); (refine jy (yadd (c := ((1 : Nat) : Int)) rfl rfl (by rw [i64_in (by omega) (by omega)]; omega)) rfl rfl ?_)) | (show Jo (some 60) (.binOp .eql _ _ _ _); refine jy (yfe rfl rfl fn104 rfl) rfl rfl ?_) | refine jy (ylss rfl rfl (by (exact decide_eq_true (by omega)))) rfl rfl ?_) | (show Jo _ (.pick _ _ _); refine jy (ypick0 rfl rfl) rfl rfl ?_) | (show Jo _ (.call _); ((show Jo (some 56) (.call _); refine jcallC (k := 115) (us := []) (vs := [fnV 54, pL H]) (ι := Unit) _ rfl bo137 rfl rfl rfl hczU (fun _ _ => ?_)))) | (show Jo _ (.indexAddr 110 _ _); refine jy (yat rfl rfl und133 sz137 (by omega) (by omega) hiz) rfl rfl ?_)) | first | (show JT _ _ _ _ _ _ [] _ _; refine jtnil ?_) | (first | (show JTo _ (.move _); refine jty (ymove rfl) rfl rfl ?_) | (show JTo _ (.nilCheck _); refine jty (ynil rfl) rfl rfl ?_) | (show JTo _ (.fieldAddr _ _ _); refine jty (yfield rfl (by first | exact fb136_0 | exact fb142_3) rfl) rfl rfl ?_) | (show JTo _ (.load _ _); refine jty (yload (i := 0) rfl rfl rfl one3) rfl rfl ?_) | (show JTo _ (.assign _); refine jty (yassign rfl) rfl rfl ?_) | (show JTo _ (.extract _ _); refine jty (yextractL rfl rfl) rfl rfl ?_)) | first | (show PJ _ (WKeep _ _ _) _ _; refine jas (fun _ h => h.less (by repeat ((exact List.nil_sublist _)))) ?_) | (show PJ _ (WIf _ _ _) _ _; refine jaw ?_) | (show PJ _ (WAnyT _ _ _ _ _ _ _ _) _ _; first | refine jaqT (n := 9) (g' := 6) (D := []) [0, 1, 2, 3, 4, 5, 6, 7, 8] rfl (fun _ h => h.less (by repeat (first | exact List.nil_sublist _ | refine List.Sublist.cons_cons _ ?_ | refine List.Sublist.cons _ ?_))) (by kernel_rfl) (by kernel_rfl) (by kernel_rfl) (by kernel_rfl) (by kernel_rfl) rfl (fun _ d _ _ _ h => by cases d <;> exact h) rfl ?_ | refine jfullT (D := [0, 1, 2, 3, 4, 5, 6, 7, 8]) (by kernel_rfl) ?_) | (show PJ _ (WAny _ _ _ _ _ _ _) _ _; first | refine ja1 (g' := 5) (D := [0, 1, 2, 3, 4, 5, 6, 7, 8]) 9 rfl rfl (by kernel_rfl) rfl ?_ | refine jaq (g' := 0) (D := [0, 1, 2, 3, 4, 5, 6, 7, 8, 9]) [10, 11, 12, 13, 14] rfl (fun _ h => h.less (by repeat ((exact List.nil_sublist _)))) (by kernel_rfl) (by kernel_rfl) rfl (fun _ d _ _ _ h => by cases d <;> exact h) rfl ?_ | refine jadone rfl (by kernel_rfl) ?_))
        exact fin (hk hl) ⟨rfl, rfl, rfl, rfl, rfl, trivial⟩ rfl
      · have hcz := cz1 hX hS hf hnl (fnV 54) st W gd (F := secD false H S) hl
        rw [lexR_1 (dv := false) hl]
        repeat' (first | refine cfalse (congrArg (fun b => some (Value.bool b)) hv) ?_ | first | (show PJ _ (Code.wp _ _ _) _ _; first | refine cseq ?_ | refine rtext ?_ | refine ctrue rfl ?_ | refine cskip ?_ | refine cblk ?_ | refine cret ?_ | (show PJ _ (Code.wp _ (Code.region 9 _ true) _) _ _; refine ranyT 9 [h1B H S] mixed ?_)) | refine tret ?_ | refine bret ?_ | refine jnil ?_ | (first | refine js rfl rfl ?_ | refine jmv rfl rfl rfl ?_ | refine jy (ynil rfl) rfl rfl ?_ | (show Jo _ (.fieldAddr _ _ _); refine jy (yfield rfl fb136_1 rfl) rfl rfl ?_) | (show Jo _ (.load _ _); first | refine jy (yload (i := 6) rfl rfl rfl one3) rfl rfl ?_ | refine jy (yload (i := 7) rfl rfl rfl one3) rfl rfl ?_) | refine jas_ rfl rfl rfl ?_ | (show Jo _ (.binOp _ _ _ _ _); first | (show Jo (some 60) (.binOp .eql _ _ _ _); refine jy (yfe rfl rfl fn104 rfl) rfl rfl ?_) | refine jy (ylss rfl rfl (by (exact decide_eq_true (by omega)))) rfl rfl ?_) | (show Jo _ (.pick _ _ _); refine jy (ypick1 rfl rfl) rfl rfl ?_) | (show Jo _ (.call _); ((show Jo (some 56) (.call _); refine jcallC (k := 115) (us := []) (vs := [fnV 54, pL H]) (ι := RS) _ rfl bo137 rfl rfl rfl hcz (fun q1 hS1 => ?_)))) | (show Jo _ (.indexAddr 110 _ _); refine jy (yat rfl rfl und133 sz137 (by omega) (by omega) hiz) rfl rfl ?_)) | first | (show JT _ _ _ _ _ _ [] _ _; refine jtnil ?_) | (first | (show JTo _ (.move _); refine jty (ymove rfl) rfl rfl ?_) | (show JTo _ (.nilCheck _); refine jty (ynil rfl) rfl rfl ?_) | (show JTo _ (.fieldAddr _ _ _); refine jty (yfield rfl (by first | exact fb136_0 | exact fb142_3) rfl) rfl rfl ?_) | (show JTo _ (.load _ _); refine jty (yload (i := 0) rfl rfl rfl one3) rfl rfl ?_) | (show JTo _ (.assign _); refine jty (yassign rfl) rfl rfl ?_) | (show JTo _ (.extract _ _); refine jty (yextractL rfl rfl) rfl rfl ?_)) | first | (show PJ _ (WKeep _ _ _) _ _; refine jas (fun _ h => h.less (by repeat ((exact List.nil_sublist _)))) ?_) | (show PJ _ (WIf _ _ _) _ _; refine jaw ?_) | (show PJ _ (WAnyT _ _ _ _ _ _ _ _) _ _; first | refine jaqT (n := 9) (g' := 6) (D := []) [0, 1, 2, 3, 4, 5, 6, 7, 8] rfl (fun _ h => h.less (by repeat (first | exact List.nil_sublist _ | refine List.Sublist.cons_cons _ ?_ | refine List.Sublist.cons _ ?_))) (by kernel_rfl) (by kernel_rfl) (by kernel_rfl) (by kernel_rfl) (by kernel_rfl) rfl (fun _ d _ _ _ h => by cases d <;> exact h) rfl ?_ | refine jfullT (D := [0, 1, 2, 3, 4, 5, 6, 7, 8]) (by kernel_rfl) ?_) | (show PJ _ (WAny _ _ _ _ _ _ _) _ _; first | refine ja1 (g' := 5) (D := [0, 1, 2, 3, 4, 5, 6, 7, 8]) 9 rfl rfl (by kernel_rfl) rfl ?_ | refine jaq (g' := 0) (D := [0, 1, 2, 3, 4, 5, 6, 7, 8, 9]) [10, 11, 12, 13, 14] rfl (fun _ h => h.less (by repeat ((exact List.nil_sublist _)))) (by kernel_rfl) (by kernel_rfl) rfl (fun _ d _ _ _ h => by cases d <;> exact h) rfl ?_ | refine jadone rfl (by kernel_rfl) ?_))
        exact ret1 rfl rfl rfl (fun w' hw' => ⟨q1, W, rfl, hw.up hw', StOk.up hw hS1⟩)
      · have hcz := cz1 hX hS hf hnl (fnV 54) st W gd (F := secD false H S) hl
        rw [lexR_1 (dv := false) hl]
        repeat' (first | refine cfalse (congrArg (fun b => some (Value.bool b)) hv) ?_ | first | (show PJ _ (Code.wp _ _ _) _ _; first | refine cseq ?_ | refine rtext ?_ | refine ctrue rfl ?_ | refine cskip ?_ | refine cblk ?_ | refine cret ?_ | (show PJ _ (Code.wp _ (Code.region 9 _ true) _) _ _; refine ranyT 9 [h1B H S] mixed ?_)) | refine tret ?_ | refine bret ?_ | refine jnil ?_ | (first | refine jmv rfl rfl rfl ?_ | refine jy (ynil rfl) rfl rfl ?_ | (show Jo _ (.fieldAddr _ _ _); refine jy (yfield rfl fb136_1 rfl) rfl rfl ?_) | (show Jo _ (.load _ _); first | refine jy (yload (i := 6) rfl rfl rfl one3) rfl rfl ?_ | refine jy (yload (i := 7) rfl rfl rfl one3) rfl rfl ?_) | refine jas_ rfl rfl rfl ?_ | (show Jo _ (.binOp _ _ _ _ _); first | (show Jo (some 60) (.binOp .eql _ _ _ _); refine jy (yfe rfl rfl fn104 rfl) rfl rfl ?_) | refine jy (ylss rfl rfl (by (exact decide_eq_true (by omega)))) rfl rfl ?_) | (show Jo _ (.pick _ _ _); refine jy (ypick0 rfl rfl) rfl rfl ?_) | (show Jo _ (.call _); ((show Jo (some 56) (.call _); refine jcallC (k := 115) (us := []) (vs := [fnV 54, pL H]) (ι := RS) _ rfl bo137 rfl rfl rfl hcz (fun q1 hS1 => ?_)))) | (show Jo _ (.indexAddr 110 _ _); refine jy (yat rfl rfl und133 sz137 (by omega) (by omega) hiz) rfl rfl ?_)) | first | (show JT _ _ _ _ _ _ [] _ _; refine jtnil ?_) | (first | (show JTo _ (.move _); refine jty (ymove rfl) rfl rfl ?_) | (show JTo _ (.nilCheck _); refine jty (ynil rfl) rfl rfl ?_) | (show JTo _ (.fieldAddr _ _ _); refine jty (yfield rfl (by first | exact fb136_0 | exact fb142_3) rfl) rfl rfl ?_) | (show JTo _ (.load _ _); refine jty (yload (i := 0) rfl rfl rfl one3) rfl rfl ?_) | (show JTo _ (.assign _); refine jty (yassign rfl) rfl rfl ?_) | (show JTo _ (.extract _ _); refine jty (yextractL rfl rfl) rfl rfl ?_)) | first | (show PJ _ (WKeep _ _ _) _ _; refine jas (fun _ h => h.less (by repeat ((exact List.nil_sublist _)))) ?_) | (show PJ _ (WIf _ _ _) _ _; refine jaw ?_) | (show PJ _ (WAnyT _ _ _ _ _ _ _ _) _ _; first | refine jaqT (n := 9) (g' := 6) (D := []) [0, 1, 2, 3, 4, 5, 6, 7, 8] rfl (fun _ h => h.less (by repeat (first | exact List.nil_sublist _ | refine List.Sublist.cons_cons _ ?_ | refine List.Sublist.cons _ ?_))) (by kernel_rfl) (by kernel_rfl) (by kernel_rfl) (by kernel_rfl) (by kernel_rfl) rfl (fun _ d _ _ _ h => by cases d <;> exact h) rfl ?_ | refine jfullT (D := [0, 1, 2, 3, 4, 5, 6, 7, 8]) (by kernel_rfl) ?_) | (show PJ _ (WAny _ _ _ _ _ _ _) _ _; first | refine ja1 (g' := 5) (D := [0, 1, 2, 3, 4, 5, 6, 7, 8]) 9 rfl rfl (by kernel_rfl) rfl ?_ | refine jaq (g' := 0) (D := [0, 1, 2, 3, 4, 5, 6, 7, 8, 9]) [10, 11, 12, 13, 14] rfl (fun _ h => h.less (by repeat ((exact List.nil_sublist _)))) (by kernel_rfl) (by kernel_rfl) rfl (fun _ d _ _ _ h => by cases d <;> exact h) rfl ?_ | refine jadone rfl (by kernel_rfl) ?_))
        exact ret1 rfl rfl rfl (fun w' hw' => ⟨q1, W, rfl, hw.up hw', StOk.up hw hS1⟩)
    · have hl := hs1 hv
      repeat' (first | refine ctrue (congrArg (fun b => some (Value.bool b)) hv) ?_ | first | refine cseq ?_ | refine rtext ?_ | refine ctrue rfl ?_ | refine cskip ?_ | refine cblk ?_ | refine cexit ?_ | refine tnorm ?_ | refine jnil ?_ | (first | refine jmv rfl rfl rfl ?_ | refine jy (ynil rfl) rfl rfl ?_ | (show Jo _ (.fieldAddr _ _ _); refine jy (yfield rfl fb136_1 rfl) rfl rfl ?_) | (show Jo _ (.load _ _); first | refine jy (yload (i := 6) rfl rfl rfl one3) rfl rfl ?_ | refine jy (yload (i := 7) rfl rfl rfl one3) rfl rfl ?_) | refine jas_ rfl rfl rfl ?_ | (show Jo _ (.binOp _ _ _ _ _); first | (show Jo (some 65) (.binOp .add _ _ _ _); (refine jy (yadd (c := ((1 : Nat) : Int)) rfl rfl (by rw [i64_in (by omega) (by omega)]; omega)) rfl rfl ?_)) | refine jy (ylss rfl rfl (by (exact decide_eq_true (by omega)))) rfl rfl ?_) | (show Jo _ (.indexAddr 110 _ _); refine jy (yat rfl rfl und133 sz137 (by omega) (by omega) hiz) rfl rfl ?_)))
      exact fin (hk hl) ⟨rfl, rfl, rfl, rfl, rfl, trivial⟩ rfl
  | 1, _, hj1 =>
    repeat' ((fail_if_success (show PJ _ (Code.wp _ (Code.seq (Code.region 13 _ _) _) _) _ _)); first | first | refine cseq ?_ | refine rtext ?_ | refine cfalse rfl ?_ | refine cexit ?_ | refine jnil ?_ | (((show Jo _ (.binOp _ _ _ _ _); refine jy (ylss rfl rfl (by (exact decide_eq_false (by omega)))) rfl rfl ?_))))
    exact fin (hend (hj1 (Nat.le_refl _))) ⟨rfl, rfl, trivial⟩ rfl
set_option maxHeartbeats 2000000 in
theorem hlexT {Z X : Cx} {H : Hd} {G : Mem} {w : World} {m0 : Mem} (hZ : Z = X.sub 77 w) (hw : Cl X m0 w) (hX : Ok Z H) {S : Sec} {y : Lx} {q : RS} (hS : StOk Z H y q G) (hf : y.items.length < 999999999000) (hnl : y.name.size ≤ 4611686018427387904) (st : Value) (W gd : Nat) (hp1 : y.pos + 1 ≤ H.s.length)
    (hs1 : S.s1 = true → lex1 envT H.s y = none) (hs2 : S.s2 = true → (if dvOn true y then lex2 H.s y else none) = none) (hs3 : S.s2 = false → dvOn true y = true) :
    PJ Z ((codeOut Tryz.f84 5).wp Tryz.prog (bodyPost Tryz.prog Tryz.f84 fun e w' => ∃ (q' : RS) (W' : Nat), e = .returned (stV (lexR envT H.s true y).2) ∧ Cl X (cM H (lexR envT H.s true y).1 st W' gd q' (secD true H S) G) w' ∧ StOk X H (lexR envT H.s true y).1 q' G)) [(0, pS H), (1, fnV 54)] (cM H y st W gd q (secD true H S) G) := by
  have hend := fun h1 h2 => hlex_end (b := true) hZ hw hX (S := S) hS st W gd hp1 h1 h2
  subst hZ
  conv => arg 2; arg 2; whnf
  conv at hend => intro h1 h2; arg 2; arg 2; whnf
  repeat' (first | refine cseq ?_ | refine rtext ?_ | refine cblk ?_ | refine jnil ?_ | (first | refine jmv rfl rfl rfl ?_ | refine jy (ynil rfl) rfl rfl ?_ | (show Jo _ (.fieldAddr _ _ _); refine jy (yfield rfl fb136_2 rfl) rfl rfl ?_) | (show Jo _ (.load _ _); refine jy (yload (i := 5) rfl rfl rfl one3) rfl rfl ?_) | (show Jo _ (.call _); ((show Jo _ (.call ⟨.builtin .len, _, _⟩); refine jy (ylenl rfl und133) rfl rfl ?_)))))
  refine fin (f' := FX H S 2 0) (m' := cM H y st W gd q (secD true H S) G) (cloop (ι := Nat) (FX H S 2) (fun _ => cM H y st W gd q (secD true H S) G) (fun n j => n = 2 - j ∧ j ≤ 2 ∧ (1 ≤ j → lex1 envT H.s y = none) ∧ (2 ≤ j → (if dvOn true y then lex2 H.s y else none) = none)) 2 0 ⟨rfl, Nat.zero_le _, fun h => by omega, fun h => by omega⟩ ?_) ⟨rfl, rfl, rfl, rfl, rfl, trivial⟩ rfl
  rintro n j ⟨rfl, hj, hj1, hj2⟩ K hK
  match j, hj, hj1, hj2 with
  | 0, _, _, _ =>
    have hk := fun h => hK 1 1 (by omega) ⟨rfl, by omega, fun _ => h, fun h => by omega⟩
    have hiz : (⟨S.gh, 0, none⟩ : Addr).add (((0 : Nat) : Int).toNat * 1) = ⟨S.gh, 0, none⟩ := rfl
    rcases (Bool.eq_false_or_eq_true S.s1).symm with hv | hv
    · rcases lex1_cases (E := envT) (s := H.s) (x := y) with hl | hl | hl
      · have hczU := cz1n hX hS hf hnl (fnV 54) st W gd (F := secD true H S) hl
        repeat' (first | refine cfalse (congrArg (fun b => some (Value.bool b)) hv) ?_ | first | (show PJ _ (Code.wp _ _ _) _ _; first | refine cseq ?_ | refine rtext ?_ | refine ctrue rfl ?_ | refine cfalse rfl ?_ | refine cskip ?_ | refine cblk ?_ | (show PJ _ (Code.wp _ (Code.region 9 _ true) _) _ _; refine ranyT 9 [h1B H S] mixed ?_)) | refine tnorm ?_ | refine jnil ?_ | (first | refine jmv rfl rfl rfl ?_ | refine jy (ynil rfl) rfl rfl ?_ | (show Jo _ (.fieldAddr _ _ _); refine jy (yfield rfl fb136_1 rfl) rfl rfl ?_) | (show Jo _ (.load _ _); first | refine jy (yload (i := 6) rfl rfl rfl one3) rfl rfl ?_ | refine jy (yload (i := 7) rfl rfl rfl one3) rfl rfl ?_) | refine jas_ rfl rfl rfl ?_ | (show Jo _ (.binOp _ _ _ _ _); first | (show Jo (some 65) (.binOp .add _ _ _ _); (refine jy (yadd (c := ((1 : Nat) : Int)) rfl rfl (by rw [i64_in (by omega) (by omega)]; omega)) rfl rfl ?_)) | (show Jo (some 60) (.binOp .eql _ _ _ _); refine jy (yfe rfl rfl fn104 rfl) rfl rfl ?_) | refine jy (ylss rfl rfl (by (exact decide_eq_true (by omega)))) rfl rfl ?_) | (show Jo _ (.pick _ _ _); refine jy (ypick0 rfl rfl) rfl rfl ?_) | (show Jo _ (.call _); ((show Jo (some 56) (.call _); refine jcallC (k := 115) (us := []) (vs := [fnV 54, pL H]) (ι := Unit) _ rfl bo137 rfl rfl rfl hczU (fun _ _ => ?_)))) | (show Jo _ (.indexAddr 110 _ _); refine jy (yat rfl rfl und133 sz137 (by omega) (by omega) hiz) rfl rfl ?_)) | first | (show JT _ _ _ _ _ _ [] _ _; refine jtnil ?_) | (first | (show JTo _ (.move _); refine jty (ymove rfl) rfl rfl ?_) | (show JTo _ (.nilCheck _); refine jty (ynil rfl) rfl rfl ?_) | (show JTo _ (.fieldAddr _ _ _); refine jty (yfield rfl (by first | exact fb136_0 | exact fb142_3) rfl) rfl rfl ?_) | (show JTo _ (.load _ _); refine jty (yload (i := 0) rfl rfl rfl one3) rfl rfl ?_) | (show JTo _ (.assign _); refine jty (yassign rfl) rfl rfl ?_) | (show JTo _ (.extract _ _); refine jty (yextractL rfl rfl) rfl rfl ?_)) | first | (show PJ _ (WKeep _ _ _) _ _; refine jas (fun _ h => h.less (by repeat ((exact List.nil_sublist _)))) ?_) | (show PJ _ (WIf _ _ _) _ _; refine jaw ?_) | (show PJ _ (WAnyT _ _ _ _ _ _ _ _) _ _; first | refine jaqT (n := 9) (g' := 6) (D := []) [0, 1, 2, 3, 4, 5, 6, 7, 8] rfl (fun _ h => h.less (by repeat (first | exact List.nil_sublist _ | refine List.Sublist.cons_cons _ ?_ | refine List.Sublist.cons _ ?_))) (by kernel_rfl) (by kernel_rfl) (by kernel_rfl) (by kernel_rfl) (by kernel_rfl) rfl (fun _ d _ _ _ h => by cases d <;> exact h) rfl ?_ | refine jfullT (D := [0, 1, 2, 3, 4, 5, 6, 7, 8]) (by kernel_rfl) ?_) | (show PJ _ (WAny _ _ _ _ _ _ _) _ _; first | refine ja1 (g' := 5) (D := [0, 1, 2, 3, 4, 5, 6, 7, 8]) 9 rfl rfl (by kernel_rfl) rfl ?_ | refine jaq (g' := 0) (D := [0, 1, 2, 3, 4, 5, 6, 7, 8, 9]) [10, 11, 12, 13, 14] rfl (fun _ h => h.less (by repeat ((exact List.nil_sublist _)))) (by kernel_rfl) (by kernel_rfl) rfl (fun _ d _ _ _ h => by cases d <;> exact h) rfl ?_ | refine jadone rfl (by kernel_rfl) ?_))
        exact fin (hk hl) ⟨rfl, rfl, rfl, rfl, rfl, trivial⟩ rfl
      · have hcz := cz1 hX hS hf hnl (fnV 54) st W gd (F := secD true H S) hl
        rw [lexR_1 (dv := true) hl]
        repeat' (first | refine cfalse (congrArg (fun b => some (Value.bool b)) hv) ?_ | first | (show PJ _ (Code.wp _ _ _) _ _; first | refine cseq ?_ | refine rtext ?_ | refine ctrue rfl ?_ | refine cskip ?_ | refine cblk ?_ | refine cret ?_ | (show PJ _ (Code.wp _ (Code.region 9 _ true) _) _ _; refine ranyT 9 [h1B H S] mixed ?_)) | refine tret ?_ | refine bret ?_ | refine jnil ?_ | (first | refine js rfl rfl ?_ | refine jmv rfl rfl rfl ?_ | refine jy (ynil rfl) rfl rfl ?_ | (show Jo _ (.fieldAddr _ _ _); refine jy (yfield rfl fb136_1 rfl) rfl rfl ?_) | (show Jo _ (.load _ _); first | refine jy (yload (i := 6) rfl rfl rfl one3) rfl rfl ?_ | refine jy (yload (i := 7) rfl rfl rfl one3) rfl rfl ?_) | refine jas_ rfl rfl rfl ?_ | (show Jo _ (.binOp _ _ _ _ _); first | (show Jo (some 60) (.binOp .eql _ _ _ _); refine jy (yfe rfl rfl fn104 rfl) rfl rfl ?_) | refine jy (ylss rfl rfl (by (exact decide_eq_true (by omega)))) rfl rfl ?_) | (show Jo _ (.pick _ _ _); refine jy (ypick1 rfl rfl) rfl rfl ?_) | (show Jo _ (.call _); ((show Jo (some 56) (.call _); refine jcallC (k := 115) (us := []) (vs := [fnV 54, pL H]) (ι := RS) _ rfl bo137 rfl rfl rfl hcz (fun q1 hS1 => ?_)))) | (show Jo _ (.indexAddr 110 _ _); refine jy (yat rfl rfl und133 sz137 (by omega) (by omega) hiz) rfl rfl ?_)) | first | (show JT _ _ _ _ _ _ [] _ _; refine jtnil ?_) | (first | (show JTo _ (.move _); refine jty (ymove rfl) rfl rfl ?_) | (show JTo _ (.nilCheck _); refine jty (ynil rfl) rfl rfl ?_) | (show JTo _ (.fieldAddr _ _ _); refine jty (yfield rfl (by first | exact fb136_0 | exact fb142_3) rfl) rfl rfl ?_) | (show JTo _ (.load _ _); refine jty (yload (i := 0) rfl rfl rfl one3) rfl rfl ?_) | (show JTo _ (.assign _); refine jty (yassign rfl) rfl rfl ?_) | (show JTo _ (.extract _ _); refine jty (yextractL rfl rfl) rfl rfl ?_)) | first | (show PJ _ (WKeep _ _ _) _ _; refine jas (fun _ h => h.less (by repeat ((exact List.nil_sublist _)))) ?_) | (show PJ _ (WIf _ _ _) _ _; refine jaw ?_) | (show PJ _ (WAnyT _ _ _ _ _ _ _ _) _ _; first | refine jaqT (n := 9) (g' := 6) (D := []) [0, 1, 2, 3, 4, 5, 6, 7, 8] rfl (fun _ h => h.less (by repeat (first | exact List.nil_sublist _ | refine List.Sublist.cons_cons _ ?_ | refine List.Sublist.cons _ ?_))) (by kernel_rfl) (by kernel_rfl) (by kernel_rfl) (by kernel_rfl) (by kernel_rfl) rfl (fun _ d _ _ _ h => by cases d <;> exact h) rfl ?_ | refine jfullT (D := [0, 1, 2, 3, 4, 5, 6, 7, 8]) (by kernel_rfl) ?_) | (show PJ _ (WAny _ _ _ _ _ _ _) _ _; first | refine ja1 (g' := 5) (D := [0, 1, 2, 3, 4, 5, 6, 7, 8]) 9 rfl rfl (by kernel_rfl) rfl ?_ | refine jaq (g' := 0) (D := [0, 1, 2, 3, 4, 5, 6, 7, 8, 9]) [10, 11, 12, 13, 14] rfl (fun _ h => h.less (by repeat ((exact List.nil_sublist _)))) (by kernel_rfl) (by kernel_rfl) rfl (fun _ d _ _ _ h => by cases d <;> exact h) rfl ?_ | refine jadone rfl (by kernel_rfl) ?_))
        exact ret1 rfl rfl rfl (fun w' hw' => ⟨q1, W, rfl, hw.up hw', StOk.up hw hS1⟩)
      · have hcz := cz1 hX hS hf hnl (fnV 54) st W gd (F := secD true H S) hl
        rw [lexR_1 (dv := true) hl]
        repeat' (first | refine cfalse (congrArg (fun b => some (Value.bool b)) hv) ?_ | first | (show PJ _ (Code.wp _ _ _) _ _; first | refine cseq ?_ | refine rtext ?_ | refine ctrue rfl ?_ | refine cskip ?_ | refine cblk ?_ | refine cret ?_ | (show PJ _ (Code.wp _ (Code.region 9 _ true) _) _ _; refine ranyT 9 [h1B H S] mixed ?_)) | refine tret ?_ | refine bret ?_ | refine jnil ?_ | (first | refine jmv rfl rfl rfl ?_ | refine jy (ynil rfl) rfl rfl ?_ | (show Jo _ (.fieldAddr _ _ _); refine jy (yfield rfl fb136_1 rfl) rfl rfl ?_) | (show Jo _ (.load _ _); first | refine jy (yload (i := 6) rfl rfl rfl one3) rfl rfl ?_ | refine jy (yload (i := 7) rfl rfl rfl one3) rfl rfl ?_) | refine jas_ rfl rfl rfl ?_ | (show Jo _ (.binOp _ _ _ _ _); first | (show Jo (some 60) (.binOp .eql _ _ _ _); refine jy (yfe rfl rfl fn104 rfl) rfl rfl ?_) | refine jy (ylss rfl rfl (by (exact decide_eq_true (by omega)))) rfl rfl ?_) | (show Jo _ (.pick _ _ _); refine jy (ypick0 rfl rfl) rfl rfl ?_) | (show Jo _ (.call _); ((show Jo (some 56) (.call _); refine jcallC (k := 115) (us := []) (vs := [fnV 54, pL H]) (ι := RS) _ rfl bo137 rfl rfl rfl hcz (fun q1 hS1 => ?_)))) | (show Jo _ (.indexAddr 110 _ _); refine jy (yat rfl rfl und133 sz137 (by omega) (by omega) hiz) rfl rfl ?_)) | first | (show JT _ _ _ _ _ _ [] _ _; refine jtnil ?_) | (first | (show JTo _ (.move _); refine jty (ymove rfl) rfl rfl ?_) | (show JTo _ (.nilCheck _); refine jty (ynil rfl) rfl rfl ?_) | (show JTo _ (.fieldAddr _ _ _); refine jty (yfield rfl (by first | exact fb136_0 | exact fb142_3) rfl) rfl rfl ?_) | (show JTo _ (.load _ _); refine jty (yload (i := 0) rfl rfl rfl one3) rfl rfl ?_) | (show JTo _ (.assign _); refine jty (yassign rfl) rfl rfl ?_) | (show JTo _ (.extract _ _); refine jty (yextractL rfl rfl) rfl rfl ?_)) | first | (show PJ _ (WKeep _ _ _) _ _; refine jas (fun _ h => h.less (by repeat ((exact List.nil_sublist _)))) ?_) | (show PJ _ (WIf _ _ _) _ _; refine jaw ?_) | (show PJ _ (WAnyT _ _ _ _ _ _ _ _) _ _; first | refine jaqT (n := 9) (g' := 6) (D := []) [0, 1, 2, 3, 4, 5, 6, 7, 8] rfl (fun _ h => h.less (by repeat (first | exact List.nil_sublist _ | refine List.Sublist.cons_cons _ ?_ | refine List.Sublist.cons _ ?_))) (by kernel_rfl) (by kernel_rfl) (by kernel_rfl) (by kernel_rfl) (by kernel_rfl) rfl (fun _ d _ _ _ h => by cases d <;> exact h) rfl ?_ | refine jfullT (D := [0, 1, 2, 3, 4, 5, 6, 7, 8]) (by kernel_rfl) ?_) | (show PJ _ (WAny _ _ _ _ _ _ _) _ _; first | refine ja1 (g' := 5) (D := [0, 1, 2, 3, 4, 5, 6, 7, 8]) 9 rfl rfl (by kernel_rfl) rfl ?_ | refine jaq (g' := 0) (D := [0, 1, 2, 3, 4, 5, 6, 7, 8, 9]) [10, 11, 12, 13, 14] rfl (fun _ h => h.less (by repeat ((exact List.nil_sublist _)))) (by kernel_rfl) (by kernel_rfl) rfl (fun _ d _ _ _ h => by cases d <;> exact h) rfl ?_ | refine jadone rfl (by kernel_rfl) ?_))
        exact ret1 rfl rfl rfl (fun w' hw' => ⟨q1, W, rfl, hw.up hw', StOk.up hw hS1⟩)
    · have hl := hs1 hv
      repeat' (first | refine ctrue (congrArg (fun b => some (Value.bool b)) hv) ?_ | first | refine cseq ?_ | refine rtext ?_ | refine ctrue rfl ?_ | refine cskip ?_ | refine cblk ?_ | refine cexit ?_ | refine tnorm ?_ | refine jnil ?_ | (first | refine jmv rfl rfl rfl ?_ | refine jy (ynil rfl) rfl rfl ?_ | (show Jo _ (.fieldAddr _ _ _); refine jy (yfield rfl fb136_1 rfl) rfl rfl ?_) | (show Jo _ (.load _ _); first | refine jy (yload (i := 6) rfl rfl rfl one3) rfl rfl ?_ | refine jy (yload (i := 7) rfl rfl rfl one3) rfl rfl ?_) | refine jas_ rfl rfl rfl ?_ | (show Jo _ (.binOp _ _ _ _ _); first | (show Jo (some 65) (.binOp .add _ _ _ _); (refine jy (yadd (c := ((1 : Nat) : Int)) rfl rfl (by rw [i64_in (by omega) (by omega)]; omega)) rfl rfl ?_)) | refine jy (ylss rfl rfl (by (exact decide_eq_true (by omega)))) rfl rfl ?_) | (show Jo _ (.indexAddr 110 _ _); refine jy (yat rfl rfl und133 sz137 (by omega) (by omega) hiz) rfl rfl ?_)))
      exact fin (hk hl) ⟨rfl, rfl, rfl, rfl, rfl, trivial⟩ rfl
  | 1, _, hj1, _ =>
    have hl := hj1 (Nat.le_refl _)
    have hk := fun h => hK 0 2 (by omega) ⟨rfl, by omega, fun _ => hl, fun _ => h⟩
    have hiz : (⟨S.gh, 0, none⟩ : Addr).add (((1 : Nat) : Int).toNat * 1) = ⟨S.gh, 1, none⟩ := rfl
    rcases (Bool.eq_false_or_eq_true S.s2).symm with hv | hv
    · have hd := hs3 hv
      cases hl2 : lex2 H.s y with
      | none =>
        have hczU := cz2n hX hS hf (fnV 54) st W gd (F := secD true H S) hl2
        repeat' (first | refine cfalse (congrArg (fun b => some (Value.bool b)) hv) ?_ | first | (show PJ _ (Code.wp _ _ _) _ _; first | refine cseq ?_ | refine rtext ?_ | refine ctrue rfl ?_ | refine cfalse rfl ?_ | refine cskip ?_ | refine cblk ?_ | (show PJ _ (Code.wp _ (Code.region 9 _ true) _) _ _; refine ranyT 9 [h2B H S] mixed ?_)) | refine tnorm ?_ | refine jnil ?_ | (first | refine jmv rfl rfl rfl ?_ | refine jy (ynil rfl) rfl rfl ?_ | (show Jo _ (.fieldAddr _ _ _); refine jy (yfield rfl fb136_1 rfl) rfl rfl ?_) | (show Jo _ (.load _ _); first | refine jy (yload (i := 6) rfl rfl rfl one3) rfl rfl ?_ | refine jy (yload (i := 9) rfl rfl rfl one3) rfl rfl ?_) | refine jas_ rfl rfl rfl ?_ | (show Jo _ (.binOp _ _ _ _ _); first | (show Jo (some 65) (.binOp .add _ _ _ _); (refine jy (yadd (c := ((2 : Nat) : Int)) rfl rfl (by rw [i64_in (by omega) (by omega)]; omega)) rfl rfl ?_)) | (show Jo (some 60) (.binOp .eql _ _ _ _); refine jy (yfe rfl rfl fn104 rfl) rfl rfl ?_) | refine jy (ylss rfl rfl (by (exact decide_eq_true (by omega)))) rfl rfl ?_) | (show Jo _ (.pick _ _ _); refine jy (ypick0 rfl rfl) rfl rfl ?_) | (show Jo _ (.call _); ((show Jo (some 56) (.call _); refine jcallC (k := 121) (us := []) (vs := [fnV 54, pL H]) (ι := Unit) _ rfl bo143 rfl rfl rfl hczU (fun _ _ => ?_)))) | (show Jo _ (.indexAddr 110 _ _); refine jy (yat rfl rfl und133 sz137 (by omega) (by omega) hiz) rfl rfl ?_)) | first | (show JT _ _ _ _ _ _ [] _ _; refine jtnil ?_) | (first | (show JTo _ (.move _); refine jty (ymove rfl) rfl rfl ?_) | (show JTo _ (.nilCheck _); refine jty (ynil rfl) rfl rfl ?_) | (show JTo _ (.fieldAddr _ _ _); refine jty (yfield rfl (by first | exact fb136_0 | exact fb142_3) rfl) rfl rfl ?_) | (show JTo _ (.load _ _); refine jty (yload (i := 0) rfl rfl rfl one3) rfl rfl ?_) | (show JTo _ (.assign _); refine jty (yassign rfl) rfl rfl ?_) | (show JTo _ (.extract _ _); refine jty (yextractL rfl rfl) rfl rfl ?_)) | first | (show PJ _ (WKeep _ _ _) _ _; refine jas (fun _ h => h.less (by repeat ((exact List.nil_sublist _)))) ?_) | (show PJ _ (WIf _ _ _) _ _; refine jaw ?_) | (show PJ _ (WAnyT _ _ _ _ _ _ _ _) _ _; first | refine jaqT (n := 9) (g' := 6) (D := []) [0, 1, 2, 3, 4, 5, 6, 7, 8] rfl (fun _ h => h.less (by repeat (first | exact List.nil_sublist _ | refine List.Sublist.cons_cons _ ?_ | refine List.Sublist.cons _ ?_))) (by kernel_rfl) (by kernel_rfl) (by kernel_rfl) (by kernel_rfl) (by kernel_rfl) rfl (fun _ d _ _ _ h => by cases d <;> exact h) rfl ?_ | refine jfullT (D := [0, 1, 2, 3, 4, 5, 6, 7, 8]) (by kernel_rfl) ?_) | (show PJ _ (WAny _ _ _ _ _ _ _) _ _; first | refine ja1 (g' := 5) (D := [0, 1, 2, 3, 4, 5, 6, 7, 8]) 9 rfl rfl (by kernel_rfl) rfl ?_ | refine jaq (g' := 0) (D := [0, 1, 2, 3, 4, 5, 6, 7, 8, 9]) [10, 11, 12, 13, 14] rfl (fun _ h => h.less (by repeat ((exact List.nil_sublist _)))) (by kernel_rfl) (by kernel_rfl) rfl (fun _ d _ _ _ h => by cases d <;> exact h) rfl ?_ | refine jadone rfl (by kernel_rfl) ?_))
        exact fin (hk (by rw [if_pos hd]; exact hl2)) ⟨rfl, rfl, rfl, rfl, rfl, trivial⟩ rfl
      | some y' =>
        have hcz := cz2 hX hS hf (fnV 54) st W gd (F := secD true H S) hl2
        rw [lexR_2 hl hd hl2]
        repeat' (first | refine cfalse (congrArg (fun b => some (Value.bool b)) hv) ?_ | first | (show PJ _ (Code.wp _ _ _) _ _; first | refine cseq ?_ | refine rtext ?_ | refine ctrue rfl ?_ | refine cskip ?_ | refine cblk ?_ | refine cret ?_ | (show PJ _ (Code.wp _ (Code.region 9 _ true) _) _ _; refine ranyT 9 [h2B H S] mixed ?_)) | refine tret ?_ | refine bret ?_ | refine jnil ?_ | (first | refine jmv rfl rfl rfl ?_ | refine jy (ynil rfl) rfl rfl ?_ | (show Jo _ (.fieldAddr _ _ _); refine jy (yfield rfl fb136_1 rfl) rfl rfl ?_) | (show Jo _ (.load _ _); first | refine jy (yload (i := 6) rfl rfl rfl one3) rfl rfl ?_ | refine jy (yload (i := 9) rfl rfl rfl one3) rfl rfl ?_) | refine jas_ rfl rfl rfl ?_ | (show Jo _ (.binOp _ _ _ _ _); first | (show Jo (some 60) (.binOp .eql _ _ _ _); refine jy (yfe rfl rfl fn104 rfl) rfl rfl ?_) | refine jy (ylss rfl rfl (by (exact decide_eq_true (by omega)))) rfl rfl ?_) | (show Jo _ (.pick _ _ _); refine jy (ypick0 rfl rfl) rfl rfl ?_) | (show Jo _ (.call _); ((show Jo (some 56) (.call _); refine jcallC (k := 121) (us := []) (vs := [fnV 54, pL H]) (ι := RS × Nat) _ rfl bo143 rfl rfl rfl hcz (fun q1 hS1 => ?_)))) | (show Jo _ (.indexAddr 110 _ _); refine jy (yat rfl rfl und133 sz137 (by omega) (by omega) hiz) rfl rfl ?_)) | first | (show JT _ _ _ _ _ _ [] _ _; refine jtnil ?_) | (first | (show JTo _ (.move _); refine jty (ymove rfl) rfl rfl ?_) | (show JTo _ (.nilCheck _); refine jty (ynil rfl) rfl rfl ?_) | (show JTo _ (.fieldAddr _ _ _); refine jty (yfield rfl (by first | exact fb136_0 | exact fb142_3) rfl) rfl rfl ?_) | (show JTo _ (.load _ _); refine jty (yload (i := 0) rfl rfl rfl one3) rfl rfl ?_) | (show JTo _ (.assign _); refine jty (yassign rfl) rfl rfl ?_) | (show JTo _ (.extract _ _); refine jty (yextractL rfl rfl) rfl rfl ?_)) | first | (show PJ _ (WKeep _ _ _) _ _; refine jas (fun _ h => h.less (by repeat ((exact List.nil_sublist _)))) ?_) | (show PJ _ (WIf _ _ _) _ _; refine jaw ?_) | (show PJ _ (WAnyT _ _ _ _ _ _ _ _) _ _; first | refine jaqT (n := 9) (g' := 6) (D := []) [0, 1, 2, 3, 4, 5, 6, 7, 8] rfl (fun _ h => h.less (by repeat (first | exact List.nil_sublist _ | refine List.Sublist.cons_cons _ ?_ | refine List.Sublist.cons _ ?_))) (by kernel_rfl) (by kernel_rfl) (by kernel_rfl) (by kernel_rfl) (by kernel_rfl) rfl (fun _ d _ _ _ h => by cases d <;> exact h) rfl ?_ | refine jfullT (D := [0, 1, 2, 3, 4, 5, 6, 7, 8]) (by kernel_rfl) ?_) | (show PJ _ (WAny _ _ _ _ _ _ _) _ _; first | refine ja1 (g' := 5) (D := [0, 1, 2, 3, 4, 5, 6, 7, 8]) 9 rfl rfl (by kernel_rfl) rfl ?_ | refine jaq (g' := 0) (D := [0, 1, 2, 3, 4, 5, 6, 7, 8, 9]) [10, 11, 12, 13, 14] rfl (fun _ h => h.less (by repeat ((exact List.nil_sublist _)))) (by kernel_rfl) (by kernel_rfl) rfl (fun _ d _ _ _ h => by cases d <;> exact h) rfl ?_ | refine jadone rfl (by kernel_rfl) ?_))
        exact ret1 rfl rfl rfl (fun w' hw' => ⟨q1.1, q1.2, rfl, hw.up hw', StOk.up hw hS1⟩)
    · have hl := hs2 hv
      repeat' (first | refine ctrue (congrArg (fun b => some (Value.bool b)) hv) ?_ | first | refine cseq ?_ | refine rtext ?_ | refine ctrue rfl ?_ | refine cskip ?_ | refine cblk ?_ | refine cexit ?_ | refine tnorm ?_ | refine jnil ?_ | (first | refine jmv rfl rfl rfl ?_ | refine jy (ynil rfl) rfl rfl ?_ | (show Jo _ (.fieldAddr _ _ _); refine jy (yfield rfl fb136_1 rfl) rfl rfl ?_) | (show Jo _ (.load _ _); first | refine jy (yload (i := 6) rfl rfl rfl one3) rfl rfl ?_ | refine jy (yload (i := 9) rfl rfl rfl one3) rfl rfl ?_) | refine jas_ rfl rfl rfl ?_ | (show Jo _ (.binOp _ _ _ _ _); first | (show Jo (some 65) (.binOp .add _ _ _ _); (refine jy (yadd (c := ((2 : Nat) : Int)) rfl rfl (by rw [i64_in (by omega) (by omega)]; omega)) rfl rfl ?_)) | refine jy (ylss rfl rfl (by (exact decide_eq_true (by omega)))) rfl rfl ?_) | (show Jo _ (.indexAddr 110 _ _); refine jy (yat rfl rfl und133 sz137 (by omega) (by omega) hiz) rfl rfl ?_)))
      exact fin (hk hl) ⟨rfl, rfl, rfl, rfl, rfl, trivial⟩ rfl
  | 2, _, hj1, hj2 =>
    repeat' ((fail_if_success (show PJ _ (Code.wp _ (Code.seq (Code.region 13 _ _) _) _) _ _)); first | first | refine cseq ?_ | refine rtext ?_ | refine cfalse rfl ?_ | refine cexit ?_ | refine jnil ?_ | (((show Jo _ (.binOp _ _ _ _ _); refine jy (ylss rfl rfl (by (exact decide_eq_false (by omega)))) rfl rfl ?_))))
    exact fin (hend (hj1 (by omega)) (hj2 (Nat.le_refl _))) ⟨rfl, rfl, trivial⟩ rfl
theorem bo68 : bodyB Tryz.prog 54 = true := by kernel_rfl
theorem SecOk.fwd {s : T} {x y : Lx} {S : Sec} (h : SecOk s x S) (hp : x.pos ≤ y.pos) (ho : y.org = x.org) (hc : x.chk = true → y.chk = true) : SecOk s y S := by
  have e : s.drop y.pos = (s.drop x.pos).drop (y.pos - x.pos) := by rw [List.drop_drop, show x.pos + (y.pos - x.pos) = y.pos by omega]
  have hL : idx lsc (s.drop x.pos) = none → idx lsc (s.drop y.pos) = none := fun h => by rw [e]; exact idx_drop (by decide) _ _ h
  have hD : idxD s x = none → idxD s y = none := fun h => by
    unfold idxD at h ⊢
    rw [ho, e]
    by_cases hx : x.chk = true
    · rw [if_pos (hc hx)]
    · rw [if_neg hx] at h
      split
      · rfl
      · exact idx_drop (by cases x.org <;> decide) _ _ h
  refine ⟨fun h1 => ?_, fun h1 => hL (h.a1 h1), fun h0 h1 => hD (h.a2 h0 h1), h.kc, h.kl⟩
  have := h.al h1
  rw [found_eq] at this ⊢
  have hm : ∀ a b : Option Nat, mn a b = none → a = none ∧ b = none := by
    intro a b h
    cases a <;> cases b <;> first | exact ⟨rfl, rfl⟩ | cases h
  obtain ⟨h2, h3⟩ := hm _ _ this
  rw [hL h2]
  cases hd : S.dv
  · rfl
  · rw [hd, if_pos rfl] at h3
    rw [if_pos rfl, hD h3]
    rfl
theorem SecR.may {X : Cx} {H : Hd} {S S' : Sec} (h : SecR S S') (hm : SecMay X H S) : SecMay X H S' := ⟨hm.s, h.g1 ▸ hm.m1, h.g2 ▸ hm.m2, h.gk ▸ hm.my, by rw [h.kl, h.kc]; exact hm.kl, by rw [h.kc]; exact hm.kx⟩
theorem nilF_stV (u : Option St) : nilF (stV u) = some u.isNone := by cases u <;> rfl
theorem idx_pre {p : T} : ∀ {l : T} {k : Nat}, idx p l = some k → p.isPrefixOf (l.drop k) = true := by
  intro l
  induction l with
  | nil =>
    intro k h
    unfold idx at h
    split at h
    · rename_i hp
      cases h
      rw [hp]
      rfl
    · cases h
  | cons c r ih =>
    intro k h
    unfold idx at h
    split at h
    · rename_i hp
      cases h
      exact hp
    · cases hr : idx p r with
      | none => rw [hr] at h; cases h
      | some j =>
        rw [hr] at h
        obtain rfl : j + 1 = k := by simpa using h
        exact ih hr
theorem pre_drop_len {p l : T} {n : Nat} (hp : p ≠ []) (h : p.isPrefixOf (l.drop n) = true) : n + 1 ≤ l.length := by
  have := pre_len h
  have h0 := List.length_pos_iff.2 hp
  rw [List.length_drop] at this
  omega
def atP (s : T) (x : Lx) : Lx := if x.start < x.pos then emitT s x else x
theorem hs1_of {E : Env} {s : T} {y : Lx} (h : (lmd.isPrefixOf (s.drop y.pos) || lno.isPrefixOf (s.drop y.pos)) = false) : lex1 E s y = none := by unfold lex1; rw [h]; rfl
theorem hs2_of {s : T} {y : Lx} (h : dvOn true y = true → (divr y.org).isPrefixOf (s.drop y.pos) = false) : (if dvOn true y then lex2 s y else none) = none := by
  split
  · rename_i hd
    unfold lex2
    rw [h hd]
    rfl
  · rfl
set_option maxHeartbeats 2000000 in
theorem hlexF_calls {X : Cx} {H : Hd} {G : Mem} (hX : Ok X H) {S : Sec} (hal : S.all = false) {x : Lx} {q : RS} (hS : StOk X H x q G) (hf : x.items.length < 999999998000) (hnl : x.name.size ≤ 4611686018427387904) (st : Value) (W gd : Nat) (hp1 : x.pos + 1 ≤ H.s.length)
    (hs1 : S.s1 = true → (lmd.isPrefixOf (H.s.drop x.pos) || lno.isPrefixOf (H.s.drop x.pos)) = false) :
    ∀ w, Cl X (cM H x st W gd q (secD false H S) G) w → Calls Tryz.prog 84 #[pS H, fnV 54] w fun e w' => ∃ (q' : RS) (W' : Nat), e = .returned (stV (lexR envT H.s false (atP H.s x)).2) ∧ Cl X (cM H (lexR envT H.s false (atP H.s x)).1 st W' gd q' (secD false H S) G) w' ∧ StOk X H (lexR envT H.s false (atP H.s x)).1 q' G := by
  intro w hw
  refine enterC 77 hw Tryz.func84 rfl rfl (vs := [pS H, fnV 54]) rfl ?_
  replace hX := hX.sub hw 77
  replace hS := hS.sub 77 w
  conv => arg 2; arg 2; whnf
  by_cases hlt : x.start < x.pos
  · have e1 : atP H.s x = emitL H.s 18 x := by unfold atP; rw [if_pos hlt]; rfl
    rw [e1]
    have hle := emI_len (s := H.s) (t := 18) (a := x.start) (b := x.pos)
    have hfe : (emitL H.s 18 x).items.length < 999999999000 := by simp only [emitL, List.length_append]; omega
    repeat' ((fail_if_success (show PJ _ (Code.wp _ (Code.seq (Code.seq (Code.region 5 _ _) _) _) _) _ _)); first | refine cfalse (congrArg (fun b => some (Value.bool b)) hal) ?_ | first | (show PJ _ (Code.wp _ _ _) _ _; first | refine cseq ?_ | refine rtext ?_ | refine ctrue rfl ?_ | refine cskip ?_ | refine rquiet mixed (by kernel_rfl) ?_) | refine jnil ?_ | (first | refine jmv rfl rfl rfl ?_ | refine jy (ynil rfl) rfl rfl ?_ | (show Jo _ (.fieldAddr _ _ _); refine jy (yfield rfl (by first | exact fb136_0 | exact fb136_1 | exact fb110_3 | exact fb110_4) rfl) rfl rfl ?_) | (show Jo _ (.load _ _); first | refine jy (yload (i := 0) rfl rfl rfl one3) rfl rfl ?_ | refine jy (yload (i := 5) rfl rfl rfl one3) rfl rfl ?_) | refine jas_ rfl rfl rfl ?_ | (show Jo _ (.binOp _ _ _ _ _); (refine jy (ygtr rfl rfl (by (exact decide_eq_true (by (try dsimp only [lsOf, emitL]); omega)))) rfl rfl ?_)) | (show Jo _ (.call _); ((show Jo (some 32) (.call _); refine jcall (ι := RS) (vs := [pL H, .int .i64 (18 : Nat)]) (v := fun _ => .tuple #[]) (m' := fun q' => cM H (emitL H.s 18 x) st W gd q' (secD false H S) G) (fun q' => StOk _ H (emitL H.s 18 x) q' G) bo116 rfl rfl rfl (emit_st hX hS st _ W (by omega) 18) (fun q1 hS1 => ?_))))))
    exact fin (hlexF rfl hw hX hS1 hfe hnl st W gd hp1 (fun h => hs1_of (y := emitL H.s 18 x) (hs1 h))) ⟨rfl, rfl, trivial⟩ rfl
  · have e1 : atP H.s x = x := by unfold atP; rw [if_neg hlt]
    rw [e1]
    repeat' ((fail_if_success (show PJ _ (Code.wp _ (Code.seq (Code.seq (Code.region 5 _ _) _) _) _) _ _)); first | refine cfalse (congrArg (fun b => some (Value.bool b)) hal) ?_ | first | (show PJ _ (Code.wp _ _ _) _ _; first | refine cseq ?_ | refine rtext ?_ | refine cfalse rfl ?_ | refine cskip ?_ | refine rquiet mixed (by kernel_rfl) ?_) | refine jnil ?_ | (first | refine jmv rfl rfl rfl ?_ | refine jy (ynil rfl) rfl rfl ?_ | (show Jo _ (.fieldAddr _ _ _); refine jy (yfield rfl (by first | exact fb136_0 | exact fb136_1 | exact fb110_3 | exact fb110_4) rfl) rfl rfl ?_) | (show Jo _ (.load _ _); first | refine jy (yload (i := 0) rfl rfl rfl one3) rfl rfl ?_ | refine jy (yload (i := 5) rfl rfl rfl one3) rfl rfl ?_) | refine jas_ rfl rfl rfl ?_ | (show Jo _ (.binOp _ _ _ _ _); (refine jy (ygtr rfl rfl (by (exact decide_eq_false (by (try dsimp only [lsOf, emitL]); omega)))) rfl rfl ?_))))
    exact fin (hlexF rfl hw hX hS (by omega) hnl st W gd hp1 (fun h => hs1_of (hs1 h))) ⟨rfl, rfl, trivial⟩ rfl
set_option maxHeartbeats 2000000 in
theorem hlexT_calls {X : Cx} {H : Hd} {G : Mem} (hX : Ok X H) {S : Sec} (hal : S.all = false) {x : Lx} {q : RS} (hS : StOk X H x q G) (hf : x.items.length < 999999998000) (hnl : x.name.size ≤ 4611686018427387904) (st : Value) (W gd : Nat) (hp1 : x.pos + 1 ≤ H.s.length)
    (hs1 : S.s1 = true → (lmd.isPrefixOf (H.s.drop x.pos) || lno.isPrefixOf (H.s.drop x.pos)) = false) (hs2 : S.s2 = true → dvOn true x = true → (divr x.org).isPrefixOf (H.s.drop x.pos) = false) (hs3 : S.s2 = false → x.chk = false) :
    ∀ w, Cl X (cM H x st W gd q (secD true H S) G) w → Calls Tryz.prog 84 #[pS H, fnV 54] w fun e w' => ∃ (q' : RS) (W' : Nat), e = .returned (stV (lexR envT H.s true (atP H.s x)).2) ∧ Cl X (cM H (lexR envT H.s true (atP H.s x)).1 st W' gd q' (secD true H S) G) w' ∧ StOk X H (lexR envT H.s true (atP H.s x)).1 q' G := by
  intro w hw
  have hs2' : ∀ z : Lx, z.chk = x.chk → z.org = x.org → z.pos = x.pos → S.s2 = true → (if dvOn true z then lex2 H.s z else none) = none := fun z h1 h2 h3 h => hs2_of fun hd => by
    rw [h2, h3]
    exact hs2 h (by unfold dvOn at hd ⊢; rw [← h1]; exact hd)
  have hs3' : ∀ z : Lx, z.chk = x.chk → S.s2 = false → dvOn true z = true := fun z h1 h => by unfold dvOn; rw [h1, hs3 h]; rfl
  refine enterC 77 hw Tryz.func84 rfl rfl (vs := [pS H, fnV 54]) rfl ?_
  replace hX := hX.sub hw 77
  replace hS := hS.sub 77 w
  conv => arg 2; arg 2; whnf
  by_cases hlt : x.start < x.pos
  · have e1 : atP H.s x = emitL H.s 18 x := by unfold atP; rw [if_pos hlt]; rfl
    rw [e1]
    have hle := emI_len (s := H.s) (t := 18) (a := x.start) (b := x.pos)
    have hfe : (emitL H.s 18 x).items.length < 999999999000 := by simp only [emitL, List.length_append]; omega
    repeat' ((fail_if_success (show PJ _ (Code.wp _ (Code.seq (Code.seq (Code.region 5 _ _) _) _) _) _ _)); first | refine cfalse (congrArg (fun b => some (Value.bool b)) hal) ?_ | first | (show PJ _ (Code.wp _ _ _) _ _; first | refine cseq ?_ | refine rtext ?_ | refine ctrue rfl ?_ | refine cskip ?_ | refine rquiet mixed (by kernel_rfl) ?_) | refine jnil ?_ | (first | refine jmv rfl rfl rfl ?_ | refine jy (ynil rfl) rfl rfl ?_ | (show Jo _ (.fieldAddr _ _ _); refine jy (yfield rfl (by first | exact fb136_0 | exact fb136_1 | exact fb110_3 | exact fb110_4) rfl) rfl rfl ?_) | (show Jo _ (.load _ _); first | refine jy (yload (i := 0) rfl rfl rfl one3) rfl rfl ?_ | refine jy (yload (i := 5) rfl rfl rfl one3) rfl rfl ?_) | refine jas_ rfl rfl rfl ?_ | (show Jo _ (.binOp _ _ _ _ _); (refine jy (ygtr rfl rfl (by (exact decide_eq_true (by (try dsimp only [lsOf, emitL]); omega)))) rfl rfl ?_)) | (show Jo _ (.call _); ((show Jo (some 32) (.call _); refine jcall (ι := RS) (vs := [pL H, .int .i64 (18 : Nat)]) (v := fun _ => .tuple #[]) (m' := fun q' => cM H (emitL H.s 18 x) st W gd q' (secD true H S) G) (fun q' => StOk _ H (emitL H.s 18 x) q' G) bo116 rfl rfl rfl (emit_st hX hS st _ W (by omega) 18) (fun q1 hS1 => ?_))))))
    exact fin (hlexT rfl hw hX hS1 hfe hnl st W gd hp1 (fun h => hs1_of (y := emitL H.s 18 x) (hs1 h)) (hs2' (emitL H.s 18 x) rfl rfl rfl) (hs3' (emitL H.s 18 x) rfl)) ⟨rfl, rfl, trivial⟩ rfl
  · have e1 : atP H.s x = x := by unfold atP; rw [if_neg hlt]
    rw [e1]
    repeat' ((fail_if_success (show PJ _ (Code.wp _ (Code.seq (Code.seq (Code.region 5 _ _) _) _) _) _ _)); first | refine cfalse (congrArg (fun b => some (Value.bool b)) hal) ?_ | first | (show PJ _ (Code.wp _ _ _) _ _; first | refine cseq ?_ | refine rtext ?_ | refine cfalse rfl ?_ | refine cskip ?_ | refine rquiet mixed (by kernel_rfl) ?_) | refine jnil ?_ | (first | refine jmv rfl rfl rfl ?_ | refine jy (ynil rfl) rfl rfl ?_ | (show Jo _ (.fieldAddr _ _ _); refine jy (yfield rfl (by first | exact fb136_0 | exact fb136_1 | exact fb110_3 | exact fb110_4) rfl) rfl rfl ?_) | (show Jo _ (.load _ _); first | refine jy (yload (i := 0) rfl rfl rfl one3) rfl rfl ?_ | refine jy (yload (i := 5) rfl rfl rfl one3) rfl rfl ?_) | refine jas_ rfl rfl rfl ?_ | (show Jo _ (.binOp _ _ _ _ _); (refine jy (ygtr rfl rfl (by (exact decide_eq_false (by (try dsimp only [lsOf, emitL]); omega)))) rfl rfl ?_))))
    exact fin (hlexT rfl hw hX hS (by omega) hnl st W gd hp1 (fun h => hs1_of (hs1 h)) (hs2' x rfl rfl rfl) (hs3' x rfl)) ⟨rfl, rfl, trivial⟩ rfl
end Go.Proofs.YtkehggbmpdacpabGreatDoor.Pg
