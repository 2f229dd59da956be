/- The laws of errors in plain words: the shape of items; pages that end with an error. No program. -/
import Derived.Test.YtkehggbmpdacpacGreatDoorPl2
set_option maxRecDepth 100000
set_option linter.unusedVariables false
set_option linter.unusedSimpArgs false
set_option linter.unusedSectionVars false
namespace Go.Proofs.YtkehggbmpdacpacGreatDoor.Lex0
open Go.Proofs.YtkehggbmpdacpacGreatDoor.Dec0 Go.Proofs.YtkehggbmpdacpacGreatDoor.Txt0
def shIt (text : T) (a : Nat) (last : Bool) (x : Ti) : Bool :=
  (decide (x.ty ≤ 1) == last) && (x.failed == (x.ty == 0)) && decide (x.ty ≤ 18) && (x.is == bitsT x.ty (!isSpT x.text)) &&
  (x.ty == 0 || (decide (a ≤ x.pos) && decide (x.pos ≤ text.length) && (x.ty == 15 || x.ty == 16 || x.text.isPrefixOf (text.drop x.pos)) && !(x.ty == 1 && (x.pos != text.length || x.text != [])) && !(x.ty == 17 && hasT [10] x.text)))
def shLoop (text : T) : List Ti → Nat → Nat → Option Nat
  | [], _, d => some d
  | x :: r, a, d => if shIt text a r.isEmpty x then shLoop text r (if x.ty = 0 then a else x.pos) (if x.ty = 2 then d + 1 else d) else none
def shapeB (text : T) (l : List Ti) : Bool := if hasT dotInl text then !l.isEmpty else match shLoop text l 0 0 with
  | none => false
  | some d => !l.isEmpty && decide (d ≤ 1)
theorem asc_nil : asc [] := by intro c hc; cases hc
theorem asc_cons {c : UInt8} {t : T} (h : c.toNat < 128) (ht : asc t) : asc (c :: t) := fun d hd => by
  rcases List.mem_cons.1 hd with rfl | hd
  · exact h
  · exact ht d hd
def errTi (p : Nat) (t : T) : Ti := ⟨0, p, t, true, bitsT 0 (!isSpT t)⟩
def Errs (E : Env) (s : T) : Prop := ∃ k l p t, Parses E s false true k ∧ k.map (toldI E s) = l ++ [errTi p t] ∧ shapeB s (l ++ [errTi p t]) = true
def BookOk (b : Book) : Prop := ∀ s, b.s <+: s → ∀ rest, rest ≠ [] → ∃ a, a ≤ b.s.length ∧ shLoop s (b.l ++ rest) 0 0 = shLoop s rest a 0
theorem ok0 : BookOk b0 := fun s _ rest _ => ⟨0, Nat.le_refl _, rfl⟩
theorem BookOk.pass {b : Book} (h : BookOk b) (u : T) : BookOk (b.pass u) := fun s hs rest hr => by
  obtain ⟨a, h1, h2⟩ := h s ((List.prefix_append _ _).trans hs) rest hr
  exact ⟨a, by show a ≤ (b.s ++ u).length; rw [List.length_append]; omega, h2⟩
theorem BookOk.as_ {b : Book} (h : BookOk b) (ty : Nat) (u t : T) (h2 : ty = 15 ∨ ty = 16 ∨ (2 < ty ∧ ty ≤ 18 ∧ ty ≠ 17 ∧ u = t)) : BookOk (b.as_ ty u t) := fun s hs rest hr => by
  obtain ⟨a, h3, h4⟩ := h s ((List.prefix_append _ _).trans hs) ([tiOf ty b.s.length t] ++ rest) (by simp)
  refine ⟨b.s.length, by show _ ≤ (b.s ++ u).length; rw [List.length_append]; omega, ?_⟩
  show shLoop s ((b.l ++ [tiOf ty b.s.length t]) ++ rest) 0 0 = _
  rw [List.append_assoc, h4]
  have hs' : (b.s ++ u) <+: s := hs
  have hlen := hs'.length_le
  rw [List.length_append] at hlen
  have hne : rest.isEmpty = false := by cases rest with
    | nil => exact absurd rfl hr
    | cons _ _ => rfl
  have hpre : ty = 15 ∨ ty = 16 ∨ t.isPrefixOf (s.drop b.s.length) = true := by
    rcases h2 with h | h | ⟨_, _, _, h⟩
    · exact .inl h
    · exact .inr (.inl h)
    · right; right
      obtain ⟨r, hr⟩ := hs'
      rw [← hr, List.append_assoc, List.drop_left, h]
      exact pre_app _ _
  have hty : 2 < ty ∧ ty ≤ 18 ∧ ty ≠ 17 := by rcases h2 with h | h | ⟨h1, h2, h3, _⟩ <;> omega
  have hsh : shIt s a rest.isEmpty (tiOf ty b.s.length t) = true := by
    unfold shIt tiOf
    dsimp only
    rw [hne]
    have e1 : decide (ty ≤ 1) = false := decide_eq_false (by omega)
    have e2 : (ty == 0) = false := beq_eq_false_iff_ne.2 (by omega)
    have e3 : decide (ty ≤ 18) = true := decide_eq_true hty.2.1
    have e4 : (ty == 1) = false := beq_eq_false_iff_ne.2 (by omega)
    have e5 : (ty == 17) = false := beq_eq_false_iff_ne.2 hty.2.2
    have e6 : (ty == 15 || ty == 16 || t.isPrefixOf (s.drop b.s.length)) = true := by
      rcases hpre with h | h | h
      · rw [h]; rfl
      · rw [h]; rfl
      · rw [h]; simp
    rw [e1, e2, e3, e4, e5, e6, decide_eq_true h3, decide_eq_true (show b.s.length ≤ s.length by omega)]
    simp
  show (if shIt s a rest.isEmpty (tiOf ty b.s.length t) then shLoop s rest (if ty = 0 then a else b.s.length) (if ty = 2 then 0 + 1 else 0) else none) = _
  rw [if_pos hsh, if_neg (by omega), if_neg (by omega)]
theorem BookOk.put {b : Book} (h : BookOk b) (ty : Nat) (u : T) (h2 : 2 < ty ∧ ty ≤ 18 ∧ ty ≠ 17) : BookOk (b.put ty u) := h.as_ ty u u (.inr (.inr ⟨h2.1, h2.2.1, h2.2.2, rfl⟩))
theorem BookOk.left {b : Book} (h : BookOk b) (md : Bool) : BookOk (b.left md) := h.put _ _ (by cases md <;> decide)
theorem BookOk.right {b : Book} (h : BookOk b) (md : Bool) : BookOk (b.right md) := h.put _ _ (by cases md <;> decide)
theorem BookOk.bqs : ∀ (vs : List T) {b : Book}, BookOk b → BookOk (vs.foldl bq b) := by
  intro vs
  induction vs with
  | nil => intro b h; exact h
  | cons v vs ih => intro b h; exact ih (((h.pass _).put 15 v (by decide)).pass _)
theorem errs_shape {b : Book} {s : T} (h : BookOk b) (hs : b.s <+: s) (p : Nat) (t : T) : shapeB s (b.l ++ [errTi p t]) = true := by
  obtain ⟨a, _, h2⟩ := h s hs [errTi p t] (by simp)
  have h3 : shLoop s [errTi p t] a 0 = some 0 := by
    have : shIt s a true (errTi p t) = true := by unfold shIt errTi; simp
    show (if shIt s a ([] : List Ti).isEmpty (errTi p t) then shLoop s [] _ _ else none) = _
    rw [show ([] : List Ti).isEmpty = true from rfl, if_pos this]
    rfl
  unfold shapeB
  rw [h2, h3]
  split
  · simp
  · simp
theorem asc_cut {s : T} (h : asc s) (a b : Nat) : asc (cut s a b) := fun c hc => h c (List.mem_of_mem_drop (List.mem_of_mem_take hc))
theorem told_err {E : Env} (hT : TrA E) {s : T} (ha : asc s) (x : Lx) : toldI E s { mk 0 x.start x.pos with err := true } = errTi x.start (cut s x.start x.pos) := by
  unfold toldI errTi
  have : valI s { mk 0 x.start x.pos with err := true } = cut s x.start x.pos := rfl
  rw [this, hT.asc _ (asc_cut ha _ _)]
  rfl
theorem errs_of {E : Env} {s : T} (hT : TrA E) {st : St} {b : Book} {r : T} {c : Ctl} (h : Go E s true .main b0 s c0 st b r c) (hf : ∀ x, Sim E s b r c x → ∃ y, step E s true st x = fail y ∧ y.items = x.items) (hb : BookOk b) (ha : asc s) : Errs E s := by
  obtain ⟨x, h1, h2⟩ := h lx0 (sim0 E s)
  obtain ⟨y, h3, h4⟩ := hf x h2
  have h5 := h1.runs (.stop (show step E s true st x = (errI y, none) from h3))
  have h6 : ((errI y).items).map (toldI E s) = b.l ++ [errTi y.start (cut s y.start y.pos)] := by
    show (y.items ++ [_]).map _ = _
    rw [List.map_append, h4, h2.l, List.map_cons, List.map_nil, told_err hT ha]
  exact ⟨_, b.l, _, _, h5, h6, errs_shape hb ⟨r, h2.e.symm⟩ _ _⟩
section
variable {E : Env} {s : T} {dv : Bool} {b : Book} {c : Ctl} {x : Lx}
theorem f_end (hx : Sim E s b [] c x) : step E s dv .inside x = fail x := by
  show inside E s x = _
  have hd := hx.drop
  unfold inside
  dsimp only
  rw [hd, if_neg (by cases x.md <;> simp [rd]), if_pos rfl]
theorem q_open (alw : Bool) : ∀ (v : T) (n : Nat) (so : Option Nat), (∀ c ∈ v, c ≠ 92 ∧ c ≠ 10 ∧ c ≠ 34) → ∀ r, (r = [] ∨ ∃ r', r = 10 :: r') → (qLoop alw (v ++ r) n so true false false).1 = true := by
  intro v
  induction v with
  | nil =>
    intro n so _ r hr
    rcases hr with rfl | ⟨r', rfl⟩
    · rfl
    · show (qLoop alw (10 :: r') n so true false false).1 = true
      rw [qLoop, if_neg (by decide), if_pos rfl]
  | cons a v ih =>
    intro n so h r hr
    have h1 := h a (List.mem_cons_self ..)
    show (qLoop alw (a :: (v ++ r)) n so true false false).1 = true
    rw [qLoop, if_neg h1.1, if_neg h1.2.1, if_neg h1.2.2]
    exact ih _ _ (fun c hc => h c (List.mem_cons_of_mem _ hc)) r hr
theorem f_quote {v r : T} (hv : QT v) (hr : r = [] ∨ ∃ r', r = 10 :: r') (hx : Sim E s b (34 :: (v ++ r)) c x) (hst : 0 < c.step) (hp : c.par ≠ 2) : ∃ y, step E s dv .inside x = fail y ∧ y.items = x.items := by
  have hc := hx.c
  subst hc
  have hp : x.par ≠ 2 := hp
  rw [in_other hx.drop (by decide) (by decide) (by decide) (by decide) (by decide) (by decide) (by decide), if_pos ⟨hst, .inr (.inl rfl)⟩]
  unfold param
  dsimp only
  rw [hx.drop, rn_ascii (by decide)]
  rw [if_pos (.inl rfl), if_neg hp, if_pos (show (((34 : UInt8).toNat : Nat) : Int) = 34 from rfl)]
  have hq : (qLoop true (34 :: (v ++ r)) 0 none false false false).1 = true := by
    rw [qLoop, if_neg (by decide), if_neg (by decide), if_pos rfl, if_neg (by decide), if_neg (by decide)]
    exact q_open true v _ _ hv.q r hr
  have hd := hx.drop
  unfold quoted
  dsimp only
  rw [hd, show (!false) = true from rfl, if_pos hq]
  exact ⟨_, rfl, rfl⟩
theorem r_open : ∀ (v : T) (n : Nat) (so : Option Nat), (∀ c ∈ v, c ≠ 96) → (rLoop v n so true).1 = true := by
  intro v
  induction v with
  | nil => intro n so _; rfl
  | cons a v ih =>
    intro n so h
    rw [rLoop, if_neg (h a (List.mem_cons_self ..))]
    exact ih _ _ (fun c hc => h c (List.mem_cons_of_mem _ hc))
theorem f_raw {v : T} (hv : ∀ c ∈ v, c ≠ 96) (hx : Sim E s b (96 :: v) c x) (hst : 0 < c.step) (hp : c.par ≠ 2) : ∃ y, step E s dv .inside x = fail y ∧ y.items = x.items := by
  have hc := hx.c
  subst hc
  have hp : x.par ≠ 2 := hp
  rw [in_other hx.drop (by decide) (by decide) (by decide) (by decide) (by decide) (by decide) (by decide), if_pos ⟨hst, .inr (.inr rfl)⟩]
  unfold param
  dsimp only
  rw [hx.drop, rn_ascii (by decide)]
  rw [if_pos (.inr ⟨rfl, rfl⟩), if_neg hp, if_neg (by decide)]
  have hq : (rLoop (96 :: v) 0 none false).1 = true := by
    rw [rLoop, if_pos rfl, if_neg (by decide)]
    exact r_open v _ _ hv
  have hd := hx.drop
  unfold raw
  dsimp only
  rw [hd, if_pos hq]
  exact ⟨_, rfl, rfl⟩
theorem f_point (hE : EA E) {w r : T} (hw : NameT w) (hr : inlT.isPrefixOf r = false) (hx : Sim E s b (w ++ 46 :: r) c x) (hi : c.inl = false) : ∃ y, step E s dv .ident x = fail y ∧ y.items = x.items := by
  have hc := hx.c
  subst hc
  have hd := hx.drop
  have hi : x.inl = false := hi
  have h46 : idR E (((46 : UInt8).toNat : Nat) : Int) = false := by
    unfold idR alh
    rw [hE.al 46 (by decide)]
    rfl
  show ∃ y, ident E s x = fail y ∧ y.items = x.items
  unfold ident
  have hq : idLoop E (w ++ 46 :: r) 0 false = (true, 0 + w.length + 1, false) := by
    rw [id_run w 0 false (fun c hc => isN_id hE (hw.all c hc)), idLoop, dif_pos (by simp), rn_ascii (by decide), if_neg (by rw [h46]; simp), if_pos (by decide), wd_ascii (by decide)]
    show (if inlT.isPrefixOf r = true then _ else (true, 0 + w.length + 1, false)) = _
    rw [hr, if_neg (by simp)]
  rw [hd, hi, hq]
  dsimp only
  rw [if_pos rfl]
  exact ⟨_, rfl, rfl⟩
theorem g_nameE (hE : EA E) (hT : TrA E) {w : T} (hw : NameT w) (hi : c.inl = false) (hst : c.step = 0) (hcl : c.closing = 0) : Go E s dv .inside b w c .inside (b.put 13 w) [] (ctlN c false w) := fun x hx => by
  have hc := hx.c
  subst hc
  have hd : s.drop x.pos = w ++ [] := by rw [List.append_nil]; exact hx.drop
  have hi : x.inl = false := hi
  have hcl : x.closing = 0 := hcl
  have hq : idLoop E (s.drop x.pos) 0 x.inl = (false, w.length, false) := by
    rw [hd, hi, id_run w 0 false (fun c hc => isN_id hE (hw.all c hc)), idLoop]
    simp
  have h1 := ident_step (E := E) (s := s) (dv := dv) (x := x) (w := w) (r := []) (inl := false) hx.st hd hq (.inl hcl)
  rw [if_neg (by omega)] at h1
  obtain ⟨a, w', he⟩ : ∃ a w', w = a :: w' := by
    cases w with
    | nil => exact absurd rfl hw.ne
    | cons a w' => exact ⟨a, w', rfl⟩
  refine ⟨_, .go (in_ident hE (c := a) (r := w') (by rw [hd, he]; simp) (hw.h0 a (by rw [he]; rfl)) hst) (.one h1), Sim.put (u := w) (r' := []) (by rw [List.append_nil]; exact hx) rfl rfl _ rfl ?_ rfl⟩
  rw [← hx.st]
  exact told_mk hT (by rw [hx.st]; exact cut_at hd) hw.asc
end
section
variable {E : Env} (hE : EA E) (hT : TrA E) (md : Bool) {w : T} (hw : NameT w)
include hE hT hw
theorem g_on2 {s r : T} {dv : Bool} {b : Book} {c : Ctl} (hi : c.inl = false) (hcl : c.closing = 0) : Go E s dv .main b (lf md ++ 32 :: (w ++ 32 :: r)) c .inside (((b.left md).pass [32]).put 13 w) (32 :: r) (ctlN { c with md := md, step := 0, par := 0 } false w) := by
  refine Go.trans (g_open0 hT md hi (no_cm (by decide))) (Go.trans (g_sp [32] (by intro c hc; revert c; decide)) ?_)
  have := g_name (E := E) (s := s) (dv := dv) (b := (b.left md).pass [32]) (c := { c with md := md, step := 0, par := 0 }) (r := r) hE hT hw hi rfl (.inl hcl)
  rw [show (if 0 < ({ c with md := md, step := 0, par := 0 } : Ctl).closing then St.endsc else .inside) = .inside from if_neg (by show ¬ 0 < c.closing; omega)] at this
  exact this
theorem ok_on2 {b : Book} (h : BookOk b) : BookOk (((b.left md).pass [32]).put 13 w) := ((h.left md).pass _).put _ _ (by decide)
theorem err_unended {u : T} (hu : u = [] ∨ ProseT u) (vs : List T) (hv : ∀ v ∈ vs, QT v) : Errs E (u ++ (lf md ++ 32 :: (w ++ qS vs))) ∧ Errs E (u ++ (lf md ++ 32 :: (w ++ (qS vs ++ [32])))) := by
  have hua : asc u := by rcases hu with h | h; rw [h]; exact asc_nil; exact h.asc
  have hqa : asc (qS vs) := by
    intro c hc
    obtain ⟨v, h1, h2⟩ := List.mem_flatMap.1 hc
    revert h2
    have : asc (32 :: 34 :: (v ++ [34])) := by
      have hva := (hv v h1).asc
      repeat' (first | exact hva | exact asc_nil | refine asc_app ?_ ?_ | refine asc_cons (by decide) ?_)
    exact this c
  have hbu : BookOk ((if u = [] then b0 else b0.put 18 u).left md) := by
    split
    · exact ok0.left md
    · exact (ok0.put 18 u (by decide)).left md
  have hop : ∀ (s r : T), [47, 42].isPrefixOf r = false → Go E s true .main b0 (u ++ (lf md ++ r)) c0 .inside ((if u = [] then b0 else b0.put 18 u).left md) r { c0 with md := md, step := 0, par := 0 } := fun s r hr => g_prose hT md hu rfl (fun h => by cases h) hr
  have hnm : ∀ (s r : T), Go E s true .inside ((if u = [] then b0 else b0.put 18 u).left md) (32 :: (w ++ 32 :: r)) { c0 with md := md, step := 0, par := 0 } .inside ((((if u = [] then b0 else b0.put 18 u).left md).pass [32]).put 13 w) (32 :: r) (ctlN { c0 with md := md, step := 0, par := 0 } false w) := fun s r =>
    Go.trans (g_sp [32] (by intro c hc; revert c; decide)) (g_name (c := { c0 with md := md, step := 0, par := 0 }) hE hT hw rfl rfl (.inl rfl))
  have hbn := (hbu.pass [32]).put 13 w (by decide)
  constructor
  · cases vs with
    | nil =>
      refine errs_of hT (Go.trans (hop _ (32 :: (w ++ qS [])) (no_cm (by decide))) (Go.trans (g_sp [32] (by intro c hc; revert c; decide)) (?_ : Go E _ true .inside _ (w ++ qS []) _ .inside (((((if u = [] then b0 else b0.put 18 u).left md).pass [32]).put 13 w)) [] (ctlN { c0 with md := md, step := 0, par := 0 } false w)))) (fun x hx => ⟨x, f_end hx, rfl⟩) hbn (by repeat' (first | exact asc_lf md | exact hw.asc | exact hqa | exact hua | refine asc_app ?_ ?_ | refine asc_cons (by decide) ?_))
      rw [show w ++ qS [] = w by simp [qS]]
      exact g_nameE hE hT hw rfl rfl rfl
    | cons v vs =>
      obtain ⟨p, _, hq⟩ := g_qs (E := E) (s := u ++ (lf md ++ 32 :: (w ++ qS (v :: vs)))) (dv := true) hT (v :: vs) (b := (((if u = [] then b0 else b0.put 18 u).left md).pass [32]).put 13 w) (r := []) (c := ctlN { c0 with md := md, step := 0, par := 0 } false w) hv (Nat.succ_pos 0) (show (0 : Nat) ≠ 2 by decide)
      have e : qS (v :: vs) = 32 :: (34 :: (v ++ 34 :: qS vs)) := by simp [qS]
      rw [List.append_nil] at hq
      refine errs_of hT (Go.trans (hop _ (32 :: (w ++ qS (v :: vs))) (no_cm (by decide))) (Go.trans ?_ hq)) (fun x hx => ⟨x, f_end hx, rfl⟩) (BookOk.bqs _ hbn) (by repeat' (first | exact asc_lf md | exact hw.asc | exact hqa | exact hua | refine asc_app ?_ ?_ | refine asc_cons (by decide) ?_))
      rw [e]
      exact hnm _ _
  · obtain ⟨p, _, hq⟩ := g_qs (E := E) (s := u ++ (lf md ++ 32 :: (w ++ (qS vs ++ [32])))) (dv := true) hT vs (b := (((if u = [] then b0 else b0.put 18 u).left md).pass [32]).put 13 w) (r := [32]) (c := ctlN { c0 with md := md, step := 0, par := 0 } false w) hv (Nat.succ_pos 0) (show (0 : Nat) ≠ 2 by decide)
    obtain ⟨r, hr⟩ : ∃ r, qS vs ++ [32] = 32 :: r := by
      cases vs with
      | nil => exact ⟨[], rfl⟩
      | cons v vs => exact ⟨_, by simp [qS]; rfl⟩
    refine errs_of hT (Go.trans (hop _ (32 :: (w ++ (qS vs ++ [32]))) (no_cm (by decide))) (Go.trans ?_ (Go.trans hq (g_sp [32] (r := []) (by intro c hc; revert c; decide))))) (fun x hx => ⟨x, f_end hx, rfl⟩) ((BookOk.bqs _ hbn).pass _) (by repeat' (first | exact asc_lf md | exact hw.asc | exact hqa | exact hua | exact asc_nil | refine asc_app ?_ ?_ | refine asc_cons (by decide) ?_))
    rw [hr]
    exact hnm _ _
theorem err_quote {v r : T} (hv : QT v) (hr0 : r = [] ∨ ∃ r', r = 10 :: r') (hr : asc r) : Errs E (lf md ++ 32 :: (w ++ 32 :: 34 :: (v ++ r))) :=
  errs_of hT (Go.trans (g_on2 hE hT md hw rfl rfl) (g_sp [32] (by intro c hc; revert c; decide))) (fun x hx => f_quote hv hr0 hx (Nat.succ_pos 0) (show (0 : Nat) ≠ 2 by decide)) ((ok_on2 hE hT md hw ok0).pass _) (by repeat' (first | exact asc_lf md | exact hw.asc | exact hv.asc | exact hr | refine asc_app ?_ ?_ | refine asc_cons (by decide) ?_))
theorem err_raw {v : T} (hv : asc v) (h96 : ∀ c ∈ v, c ≠ 96) : Errs E (lf md ++ 32 :: (w ++ 32 :: 96 :: v)) :=
  errs_of hT (Go.trans (g_on2 hE hT md hw rfl rfl) (g_sp [32] (by intro c hc; revert c; decide))) (fun x hx => f_raw h96 hx (Nat.succ_pos 0) (show (0 : Nat) ≠ 2 by decide)) ((ok_on2 hE hT md hw ok0).pass _) (by repeat' (first | exact asc_lf md | exact hw.asc | exact hv | refine asc_app ?_ ?_ | refine asc_cons (by decide) ?_))
theorem err_point {o r : T} (ho : asc o) (hp : inlT.isPrefixOf (o ++ 32 :: r) = false) (hr : asc r) : Errs E (lf md ++ 32 :: (w ++ 46 :: (o ++ 32 :: r))) := by
  obtain ⟨a, w', he⟩ : ∃ a w', w = a :: w' := by
    cases w with
    | nil => exact absurd rfl hw.ne
    | cons a w' => exact ⟨a, w', rfl⟩
  refine errs_of (st := .ident) hT (Go.trans (g_open0 hT md rfl (no_cm (by decide))) (Go.trans (g_sp [32] (by intro c hc; revert c; decide)) (fun x hx => ⟨x, .one (in_ident hE (c := a) (r := w' ++ 46 :: (o ++ 32 :: r)) (by rw [hx.drop, he]; rfl) (hw.h0 a (by rw [he]; rfl)) (congrArg Ctl.step hx.c)), hx⟩))) (fun x hx => f_point hE hw hp hx rfl) ((ok0.left md).pass _) (by repeat' (first | exact asc_lf md | exact hw.asc | exact ho | exact hr | refine asc_app ?_ ?_ | refine asc_cons (by decide) ?_))
end
end Go.Proofs.YtkehggbmpdacpacGreatDoor.Lex0
