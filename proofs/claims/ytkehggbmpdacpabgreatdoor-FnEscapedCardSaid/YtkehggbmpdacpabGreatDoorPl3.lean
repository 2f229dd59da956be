/- The laws of errors in plain words: the shape of items; pages that end with an error. No program. -/
import Derived.Test.YtkehggbmpdacpabGreatDoorPl2
set_option maxRecDepth 100000
set_option linter.unusedVariables false
set_option linter.unusedSimpArgs false
set_option linter.unusedSectionVars false
namespace Go.Proofs.YtkehggbmpdacpabGreatDoor.Lex0
open Go.Proofs.YtkehggbmpdacpabGreatDoor.Dec0 Go.Proofs.YtkehggbmpdacpabGreatDoor.Txt0
def shIt (text : T) (a : Nat) (last : Bool) (x : Ti) : Bool :=
  (decide (x.ty ≤ 1) == last) && (x.failed == (x.ty == 0)) && decide (x.ty ≤ 18) && (x.is == bitsT x.ty (!isSpT x.text)) &&
  (x.ty == 0 || (decide (a ≤ x.pos) && decide (x.pos ≤ text.length) && (x.ty == 15 || x.ty == 16 || x.text.isPrefixOf (text.drop x.pos)) && !(x.ty == 1 && (x.pos != text.length || x.text != [])) && !(x.ty == 17 && hasT [10] x.text)))
def shLoop (text : T) : List Ti → Nat → Nat → Option Nat
  | [], _, d => some d
  | x :: r, a, d => if shIt text a r.isEmpty x then shLoop text r (if x.ty = 0 then a else x.pos) (if x.ty = 2 then d + 1 else d) else none
def shapeB (text : T) (l : List Ti) : Bool := if hasT dotInl text then !l.isEmpty else match shLoop text l 0 0 with
  | none => false
  | some d => !l.isEmpty && decide (d ≤ 1)
theorem asc_cons {c : UInt8} {t : T} (h : c.toNat < 128) (ht : asc t) : asc (c :: t) := fun d hd => by
  rcases List.mem_cons.1 hd with rfl | hd
  · exact h
  · exact ht d hd
def errTi (p : Nat) (t : T) : Ti := ⟨0, p, t, true, bitsT 0 (!isSpT t)⟩
def Errs (E : Env) (s : T) : Prop := ∃ k l p t, Parses E s false true k ∧ k.map (toldI E s) = l ++ [errTi p t] ∧ shapeB s (l ++ [errTi p t]) = true
def BookOk (b : Book) : Prop := ∀ s, b.s <+: s → ∀ rest, rest ≠ [] → ∃ a, a ≤ b.s.length ∧ shLoop s (b.l ++ rest) 0 0 = shLoop s rest a 0
theorem ok0 : BookOk b0 := fun s _ rest _ => ⟨0, Nat.le_refl _, rfl⟩
theorem BookOk.pass {b : Book} (h : BookOk b) (u : T) : BookOk (b.pass u) := fun s hs rest hr => by
  obtain ⟨a, h1, h2⟩ := h s ((List.prefix_append _ _).trans hs) rest hr
  exact ⟨a, by show a ≤ (b.s ++ u).length; rw [List.length_append]; omega, h2⟩
theorem BookOk.as_ {b : Book} (h : BookOk b) (ty : Nat) (u t : T) (h2 : ty = 15 ∨ ty = 16 ∨ (2 < ty ∧ ty ≤ 18 ∧ ty ≠ 17 ∧ u = t)) : BookOk (b.as_ ty u t) := fun s hs rest hr => by
  obtain ⟨a, h3, h4⟩ := h s ((List.prefix_append _ _).trans hs) ([tiOf ty b.s.length t] ++ rest) (by simp)
  refine ⟨b.s.length, by show _ ≤ (b.s ++ u).length; rw [List.length_append]; omega, ?_⟩
  show shLoop s ((b.l ++ [tiOf ty b.s.length t]) ++ rest) 0 0 = _
  rw [List.append_assoc, h4]
  have hs' : (b.s ++ u) <+: s := hs
  have hlen := hs'.length_le
  rw [List.length_append] at hlen
  have hne : rest.isEmpty = false := by cases rest with
    | nil => exact absurd rfl hr
    | cons _ _ => rfl
  have hpre : ty = 15 ∨ ty = 16 ∨ t.isPrefixOf (s.drop b.s.length) = true := by
    rcases h2 with h | h | ⟨_, _, _, h⟩
    · exact .inl h
    · exact .inr (.inl h)
    · right; right
      obtain ⟨r, hr⟩ := hs'
      rw [← hr, List.append_assoc, List.drop_left, h]
      exact pre_app _ _
  have hty : 2 < ty ∧ ty ≤ 18 ∧ ty ≠ 17 := by rcases h2 with h | h | ⟨h1, h2, h3, _⟩ <;> omega
  have hsh : shIt s a rest.isEmpty (tiOf ty b.s.length t) = true := by
    unfold shIt tiOf
    dsimp only
    rw [hne]
    have e1 : decide (ty ≤ 1) = false := decide_eq_false (by omega)
    have e2 : (ty == 0) = false := beq_eq_false_iff_ne.2 (by omega)
    have e3 : decide (ty ≤ 18) = true := decide_eq_true hty.2.1
    have e4 : (ty == 1) = false := beq_eq_false_iff_ne.2 (by omega)
    have e5 : (ty == 17) = false := beq_eq_false_iff_ne.2 hty.2.2
    have e6 : (ty == 15 || ty == 16 || t.isPrefixOf (s.drop b.s.length)) = true := by
      rcases hpre with h | h | h
      · rw [h]; rfl
      · rw [h]; rfl
      · rw [h]; simp
    rw [e1, e2, e3, e4, e5, e6, decide_eq_true h3, decide_eq_true (show b.s.length ≤ s.length by omega)]
    simp
  show (if shIt s a rest.isEmpty (tiOf ty b.s.length t) then shLoop s rest (if ty = 0 then a else b.s.length) (if ty = 2 then 0 + 1 else 0) else none) = _
  rw [if_pos hsh, if_neg (by omega), if_neg (by omega)]
theorem BookOk.put {b : Book} (h : BookOk b) (ty : Nat) (u : T) (h2 : 2 < ty ∧ ty ≤ 18 ∧ ty ≠ 17) : BookOk (b.put ty u) := h.as_ ty u u (.inr (.inr ⟨h2.1, h2.2.1, h2.2.2, rfl⟩))
theorem BookOk.left {b : Book} (h : BookOk b) (md : Bool) : BookOk (b.left md) := h.put _ _ (by cases md <;> decide)
theorem BookOk.right {b : Book} (h : BookOk b) (md : Bool) : BookOk (b.right md) := h.put _ _ (by cases md <;> decide)
theorem errs_shape {b : Book} {s : T} (h : BookOk b) (hs : b.s <+: s) (p : Nat) (t : T) : shapeB s (b.l ++ [errTi p t]) = true := by
  obtain ⟨a, _, h2⟩ := h s hs [errTi p t] (by simp)
  have h3 : shLoop s [errTi p t] a 0 = some 0 := by
    have : shIt s a true (errTi p t) = true := by unfold shIt errTi; simp
    show (if shIt s a ([] : List Ti).isEmpty (errTi p t) then shLoop s [] _ _ else none) = _
    rw [show ([] : List Ti).isEmpty = true from rfl, if_pos this]
    rfl
  unfold shapeB
  rw [h2, h3]
  split
  · simp
  · simp
theorem asc_cut {s : T} (h : asc s) (a b : Nat) : asc (cut s a b) := fun c hc => h c (List.mem_of_mem_drop (List.mem_of_mem_take hc))
theorem told_err {E : Env} (hT : TrA E) {s : T} (ha : asc s) (x : Lx) : toldI E s { mk 0 x.start x.pos with err := true } = errTi x.start (cut s x.start x.pos) := by
  unfold toldI errTi
  have : valI s { mk 0 x.start x.pos with err := true } = cut s x.start x.pos := rfl
  rw [this, hT.asc _ (asc_cut ha _ _)]
  rfl
theorem errs_of {E : Env} {s : T} (hT : TrA E) {st : St} {b : Book} {r : T} {c : Ctl} (h : Go E s true .main b0 s c0 st b r c) (hf : ∀ x, Sim E s b r c x → ∃ y, step E s true st x = fail y ∧ y.items = x.items) (hb : BookOk b) (ha : asc s) : Errs E s := by
  obtain ⟨x, h1, h2⟩ := h lx0 (sim0 E s)
  obtain ⟨y, h3, h4⟩ := hf x h2
  have h5 := h1.runs (.stop (show step E s true st x = (errI y, none) from h3))
  have h6 : ((errI y).items).map (toldI E s) = b.l ++ [errTi y.start (cut s y.start y.pos)] := by
    show (y.items ++ [_]).map _ = _
    rw [List.map_append, h4, h2.l, List.map_cons, List.map_nil, told_err hT ha]
  exact ⟨_, b.l, _, _, h5, h6, errs_shape hb ⟨r, h2.e.symm⟩ _ _⟩
section
variable {E : Env} {s : T} {dv : Bool} {b : Book} {c : Ctl} {x : Lx}
theorem f_mixQ {r : T} (hx : Sim E s b (34 :: r) c x) (hst : 0 < c.step) (hp : c.par = 2) : step E s dv .inside x = fail (mv 1 x) := by
  have hc := hx.c
  subst hc
  have hp : x.par = 2 := hp
  rw [in_other hx.drop (by decide) (by decide) (by decide) (by decide) (by decide) (by decide) (by decide), if_pos ⟨hst, .inr (.inl rfl)⟩]
  unfold param
  dsimp only
  rw [hx.drop, rn_ascii (by decide)]
  rw [if_pos (.inl rfl), if_pos hp]
theorem f_mixK (hE : EA E) {w r : T} (hw : BareT w) (hx : Sim E s b (w ++ 61 :: r) c x) (hst : 0 < c.step) (hp : c.par = 1) : step E s dv .inside x = fail (mv w.length x) := by
  have hc := hx.c
  subst hc
  have hd := hx.drop
  obtain ⟨a, w', rfl⟩ : ∃ a w', w = a :: w' := by
    cases w with
    | nil => exact absurd rfl hw.ne
    | cons a w' => exact ⟨a, w', rfl⟩
  have ha := hw.h0 a rfl
  obtain ⟨h1, h2, h3, h4, h5, h6, h7, h8⟩ := isW_no ha
  have hal := isW_lt ha
  rw [in_other hd hal h1 h2 h3 h4 h5 h6, if_pos ⟨hst, .inl (by unfold alh; rw [hE.al a hal, ha]; rfl)⟩]
  have hr := run_par hE (r := r) hw.all (show (61 : UInt8).toNat < 128 by decide) eq_P
  have h9 : rn (s.drop x.pos) ≠ 34 ∧ rn (s.drop x.pos) ≠ 96 := by
    rw [hd, List.cons_append, rn_ascii hal]
    omega
  have hp : x.par = 1 := hp
  unfold param
  dsimp only
  rw [if_neg (fun h => by rcases h with h | h; exact h9.1 h; exact h9.2 h.1), if_neg h9.2]
  rw [hd, hr, List.drop_left, decide_eq_true (show 0 < (a :: w').length from Nat.succ_pos _), rn_ascii (by decide)]
  rw [if_neg (by omega), if_pos ⟨by decide, hp⟩]
end
section
variable {E : Env} (hE : EA E) (hT : TrA E) (md : Bool) {w : T} (hw : NameT w)
include hE hT hw
theorem g_on2 {s r : T} {dv : Bool} {b : Book} {c : Ctl} (hi : c.inl = false) (hcl : c.closing = 0) : Go E s dv .main b (lf md ++ 32 :: (w ++ 32 :: r)) c .inside (((b.left md).pass [32]).put 13 w) (32 :: r) (ctlN { c with md := md, step := 0, par := 0 } false w) := by
  refine Go.trans (g_open0 hT md hi (no_cm (by decide))) (Go.trans (g_sp [32] (by intro c hc; revert c; decide)) ?_)
  have := g_name (E := E) (s := s) (dv := dv) (b := (b.left md).pass [32]) (c := { c with md := md, step := 0, par := 0 }) (r := r) hE hT hw hi rfl (.inl hcl)
  rw [show (if 0 < ({ c with md := md, step := 0, par := 0 } : Ctl).closing then St.endsc else .inside) = .inside from if_neg (by show ¬ 0 < c.closing; omega)] at this
  exact this
theorem ok_on2 {b : Book} (h : BookOk b) : BookOk (((b.left md).pass [32]).put 13 w) := ((h.left md).pass _).put _ _ (by decide)
theorem err_mixedA {k v r : T} (hk : BareT k) (hv : QT v) (hr : asc r) : Errs E (lf md ++ 32 :: (w ++ 32 :: 34 :: (v ++ 34 :: 32 :: (k ++ 61 :: 34 :: (v ++ 34 :: 32 :: r))))) := by
  refine errs_of (b := bq (((b0.left md).pass [32]).put 13 w) v |>.pass [32]) hT (Go.trans (g_on2 hE hT md hw rfl rfl) (Go.trans (g_q1 hT hv (Nat.succ_pos 0) (show (0 : Nat) ≠ 2 by decide)) (g_sp [32] (by intro c hc; revert c; decide)))) (fun x hx => ⟨_, f_mixK hE hk hx (Nat.succ_pos 0) rfl, rfl⟩) (((((ok_on2 hE hT md hw ok0).pass _).put 15 v (by decide)).pass _).pass _) ?_
  repeat' (first | exact asc_lf md | exact hw.asc | exact hk.asc | exact hv.asc | exact hr | refine asc_app ?_ ?_ | refine asc_cons (by decide) ?_)
theorem err_mixedB {k v r : T} (hk : BareT k) (hv : QT v) (hr : asc r) : Errs E (lf md ++ 32 :: (w ++ 32 :: (k ++ 61 :: 34 :: (v ++ 34 :: 32 :: 34 :: (v ++ 34 :: 32 :: r))))) := by
  have h1 : ∀ s, Go E s true .inside (((b0.left md).pass [32]).put 13 w) (32 :: (k ++ 61 :: 34 :: (v ++ 34 :: 32 :: 34 :: (v ++ 34 :: 32 :: r)))) (ctlN { c0 with md := md, step := 0, par := 0 } false w) .inside (((((((b0.left md).pass [32]).put 13 w).pass [32]).put 15 k).pass [61, 34]).as_ 16 (escT v) v |>.pass [34]) (32 :: 34 :: (v ++ 34 :: 32 :: r)) { ctlN { c0 with md := md, step := 0, par := 0 } false w with par := 2 } := fun s => by
    have h2 := g_eqQ (E := E) (s := s) (dv := true) (b := ((((b0.left md).pass [32]).put 13 w).pass [32]).put 15 k) (c := { ctlN { c0 with md := md, step := 0, par := 0 } false w with par := 2 }) (r := 32 :: 34 :: (v ++ 34 :: 32 :: r)) hT hv.val
    rw [hv.esc] at h2 ⊢
    exact Go.trans (g_key hE hT hk (Nat.succ_pos 0) (show (0 : Nat) ≠ 1 by decide)) h2
  refine errs_of hT (Go.trans (g_on2 hE hT md hw rfl rfl) (Go.trans (h1 _) (g_sp [32] (by intro c hc; revert c; decide)))) (fun x hx => ⟨_, f_mixQ hx (Nat.succ_pos 0) rfl, rfl⟩) (((((((ok_on2 hE hT md hw ok0).pass _).put 15 k (by decide)).pass _).as_ 16 _ _ (.inr (.inl rfl))).pass _).pass _) ?_
  repeat' (first | exact asc_lf md | exact hw.asc | exact hk.asc | exact hv.asc | exact hr | refine asc_app ?_ ?_ | refine asc_cons (by decide) ?_)
end
end Go.Proofs.YtkehggbmpdacpabGreatDoor.Lex0
