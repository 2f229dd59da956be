/- The page laws: texts that all of them use, joined (part 10): Lex3, Lex4, Txt0, Lex5, Lex7, Pg28, Pg29, Pg30. -/
import Derived.Laws.Entries
import Derived.Test.YtkehggbmpdacpacGreatDoorKp1
import Derived.Test.YtkehggbmpdacpacGreatDoorKp9
set_option maxRecDepth 100000
set_option linter.unusedVariables false
set_option linter.unusedSimpArgs false
set_option linter.unusedSectionVars false
namespace Go.Proofs.YtkehggbmpdacpacGreatDoor.Lex0
open Go.Proofs.YtkehggbmpdacpacGreatDoor.Dec0
inductive Steps (E : Env) (s : T) (dv : Bool) : St → Lx → St → Lx → Prop
  | refl {st x} : Steps E s dv st x st x
  | go {st x st' y st'' z} : step E s dv st x = (y, some st') → Steps E s dv st' y st'' z → Steps E s dv st x st'' z
theorem Steps.one {E : Env} {s : T} {dv : Bool} {st st' : St} {x y : Lx} (h : step E s dv st x = (y, some st')) : Steps E s dv st x st' y := .go h .refl
theorem Steps.trans {E : Env} {s : T} {dv : Bool} {a b c : St} {x y z : Lx} (h : Steps E s dv a x b y) (k : Steps E s dv b y c z) : Steps E s dv a x c z := by
  induction h with
  | refl => exact k
  | go h1 _ ih => exact .go h1 (ih k)
theorem Steps.runs {E : Env} {s : T} {dv : Bool} {a b : St} {x y : Lx} {l : List Itm} (h : Steps E s dv a x b y) (k : Runs E s dv b y l) : Runs E s dv a x l := by
  induction h with
  | refl => exact k
  | go h1 _ ih => exact .go h1 (ih k)
def shI (k : Nat) (i : Itm) : Itm := if i.segs = [] then { i with low := i.low + k, high := i.high + k } else { i with segs := i.segs.map fun p => (p.1 + k, p.2 + k) }
def shX (k : Nat) (I : List Itm) (o : Bool) (x : Lx) : Lx := { x with pos := x.pos + k, start := x.start + k, org := o || x.org, items := I ++ x.items.map (shI k) }
section
variable {pre s : T} {k : Nat} {I : List Itm} {o : Bool} (hk : pre.length = k)
include hk
theorem sh_drop (p : Nat) : (pre ++ s).drop (p + k) = s.drop p := by rw [← hk, Nat.add_comm, List.drop_append, List.drop_of_length_le (by omega), List.nil_append]; congr 1; omega
theorem sh_cut (a b : Nat) : cut (pre ++ s) (a + k) (b + k) = cut s a b := by unfold cut; rw [sh_drop hk]; congr 1; omega
theorem sh_len : (pre ++ s).length = s.length + k := by rw [List.length_append]; omega
omit hk in
theorem shI_mk (t a b : Nat) : shI k (mk t a b) = mk t (a + k) (b + k) := rfl
theorem sh_txts (a b : Nat) (h : a ≤ b) (hb : b ≤ s.length) : txts (pre ++ s) (a + k) (b + k) = (txts s a b).map (shI k) := by
  have hl : ((cut s a b).reverse.takeWhile isBl).length ≤ b - a := by
    have h1 := (List.takeWhile_sublist (l := (cut s a b).reverse) isBl).length_le
    rw [List.length_reverse] at h1
    have : (cut s a b).length ≤ b - a := by unfold cut; rw [List.length_take]; omega
    omega
  unfold txts
  rw [sh_cut hk]
  dsimp only
  split
  · rfl
  · split
    · simp only [List.map_cons, List.map_nil, shI_mk]
      rw [show b + k - ((cut s a b).reverse.takeWhile isBl).length = b - ((cut s a b).reverse.takeWhile isBl).length + k by omega]
    · rfl
omit hk in
theorem sh_mv (n : Nat) (x : Lx) : mv n (shX k I o x) = shX k I o (mv n x) := by unfold mv shX; simp only [Nat.add_right_comm]
omit hk in
theorem sh_ign (x : Lx) : ign (shX k I o x) = shX k I o (ign x) := rfl
omit hk in
theorem sh_emit (t : Nat) (x : Lx) : emit t (shX k I o x) = shX k I o (emit t x) := by unfold emit shX; simp only [List.map_append, List.append_assoc, List.map_cons, List.map_nil, shI_mk]
omit hk in
theorem sh_emitS (t : Nat) (x : Lx) : emitS t (shX k I o x) = shX k I o (emitS t x) := by unfold emitS shX; simp only [List.map_append, List.append_assoc, List.map_cons, List.map_nil]; rfl
omit hk in
theorem sh_errI (x : Lx) : errI (shX k I o x) = shX k I o (errI x) := by unfold errI shX; simp only [List.map_append, List.append_assoc, List.map_cons, List.map_nil]; rfl
theorem sh_emitT (x : Lx) (h : x.start ≤ x.pos) (hb : x.pos ≤ s.length) : emitT (pre ++ s) (shX k I o x) = shX k I o (emitT s x) := by
  unfold emitT
  show ({ shX k I o x with items := (shX k I o x).items ++ txts (pre ++ s) (x.start + k) (x.pos + k), start := x.pos + k } : Lx) = _
  rw [sh_txts hk _ _ h hb]
  unfold shX
  simp only [List.map_append, List.append_assoc]
def shR (k : Nat) (I : List Itm) (o : Bool) (r : Res) : Res := (shX k I o r.1, r.2)
omit hk in
theorem sh_fail (x : Lx) : fail (shX k I o x) = shR k I o (fail x) := by unfold fail; rw [sh_errI]; rfl
theorem sh_done {x : Lx} (h : x.start ≤ x.pos) (hb : x.pos ≤ s.length) : done (pre ++ s) (shX k I o x) = shR k I o (done s x) := by
  unfold done
  by_cases hl : x.start < x.pos
  · rw [if_pos hl, if_pos (show (shX k I o x).start < (shX k I o x).pos from Nat.add_lt_add_right hl k), sh_emitT hk _ h hb, sh_emit]; rfl
  · rw [if_neg hl, if_neg (show ¬ (shX k I o x).start < (shX k I o x).pos from fun h => hl (Nat.lt_of_add_lt_add_right h)), sh_emit]; rfl
theorem sh_left {x : Lx} : left (pre ++ s) (shX k I o x) = shR k I o (left s x) := by
  unfold left
  rw [show (shX k I o x).pos + 3 = x.pos + 3 + k from Nat.add_right_comm _ _ _, sh_drop hk, sh_mv]
  split
  · rfl
  · show ({ emit _ _ with step := 0, par := 0 }, _) = _; rw [sh_emit]; rfl
theorem sh_comment {x : Lx} (h : x.start ≤ x.pos) (hb : x.pos ≤ s.length) : comment (pre ++ s) (shX k I o x) = shR k I o (comment s x) := by
  unfold comment
  rw [show (shX k I o x).pos = x.pos + k from rfl, sh_drop hk, show (shX k I o x).md = x.md from rfl]
  split
  · exact sh_fail x
  · rename_i q hq
    have hq := (b_idx hq).1
    rw [List.length_append, rd3, List.length_drop] at hq
    simp only [List.length_cons, List.length_nil] at hq
    split
    · exact sh_fail x
    · rename_i hq1
      rw [sh_emitT hk _ h hb, sh_mv, sh_ign, sh_mv, sh_emitT hk _ (by dsimp only [mv, ign, emitT]; omega) (by dsimp only [mv, ign, emitT]; omega), sh_mv, sh_ign, sh_mv, sh_emitT hk _ (by dsimp only [mv, ign, emitT]; omega) (by dsimp only [mv, ign, emitT]; omega)]
      rfl
omit hk in
theorem sh_right {x : Lx} : right (shX k I o x) = shR k I o (right x) := by
  unfold right
  show (emit _ { mv 3 (shX k I o x) with closing := 0 }, _) = _
  rw [sh_mv, show ({ shX k I o (mv 3 x) with closing := 0 } : Lx) = shX k I o { mv 3 x with closing := 0 } from rfl, sh_emit]
  rfl
theorem sh_pval {x : Lx} : pval (pre ++ s) (shX k I o x) = shR k I o (pval s x) := by
  unfold pval
  rw [show (shX k I o x).pos = x.pos + k from rfl, sh_drop hk, sh_mv, sh_emit]
  rfl
theorem sh_endsc {x : Lx} : endsc (pre ++ s) (shX k I o x) = shR k I o (endsc s x) := by
  unfold endsc
  rw [show (shX k I o x).pos = x.pos + k from rfl, sh_drop hk, show (shX k I o x).md = x.md from rfl]
  dsimp only
  split
  · rfl
  · split
    · exact sh_fail (k := k) (I := I) (o := o) { x with inl := false }
    · split
      · show (ign (mv 1 (shX k I o { x with inl := false })), some St.endsc) = _
        rw [sh_mv, sh_ign]; rfl
      · show fail (mv _ (shX k I o { x with inl := false })) = _
        rw [sh_mv]; exact sh_fail _
omit hk in
theorem sh_segs : ∀ (l : T) (a b : Nat), segsL l (a + k) (b + k) = (segsL l a b).map fun p => (p.1 + k, p.2 + k) := by
  intro l
  induction l with
  | nil => intro a b; unfold segsL; by_cases h : a < b; rw [if_pos h, if_pos (by omega)]; rfl; rw [if_neg h, if_neg (by omega)]; rfl
  | cons c r ih =>
    intro a b
    unfold segsL
    have e : b + k + 1 = b + 1 + k := Nat.add_right_comm _ _ _
    by_cases hc : c = 92
    · rw [if_pos hc, if_pos hc]
      by_cases h : a < b
      · rw [if_pos h, if_pos (show a + k < b + k by omega), e, ih]; rfl
      · rw [if_neg h, if_neg (show ¬ a + k < b + k by omega), e, ih]
    · rw [if_neg hc, if_neg hc, e, ih]
omit hk in
theorem sh_stAt (x : Lx) (so : Option Nat) : stAt (shX k I o x) so = stAt x so + k := by
  cases so with
  | none => rfl
  | some n => exact Nat.add_right_comm _ _ _
theorem sh_emitE (t : Nat) (x : Lx) : emitE t (pre ++ s) (shX k I o x) = shX k I o (emitE t s x) := by
  unfold emitE
  rw [show (shX k I o x).start = x.start + k from rfl, show (shX k I o x).pos = x.pos + k from rfl, sh_cut hk, sh_segs]
  by_cases h : segsL (cut s x.start x.pos) x.start x.start = []
  · rw [h]; rfl
  · rw [if_neg h, if_neg (by simpa using h)]
    unfold shX
    simp only [List.map_append, List.append_assoc, List.map_cons, List.map_nil]
    rw [show shI k ⟨t, 0, 0, segsL (cut s x.start x.pos) x.start x.start, false, false⟩ = ⟨t, 0, 0, (segsL (cut s x.start x.pos) x.start x.start).map fun p => (p.1 + k, p.2 + k), false, false⟩ from by unfold shI; rw [if_neg h]]
theorem sh_qEnd (x : Lx) : qEnd (pre ++ s) (shX k I o x) = shX k I o (qEnd s x) := by
  unfold qEnd
  rw [show (shX k I o x).pos = x.pos + k from rfl, sh_drop hk]
  split
  · rw [sh_mv]; rfl
  · rw [sh_mv]
  · rw [sh_mv]; rfl
  · rfl
theorem sh_quoted {x : Lx} (alw : Bool) (ty : Nat) : quoted (pre ++ s) alw ty (shX k I o x) = shR k I o (quoted s alw ty x) := by
  unfold quoted
  rw [show (shX k I o x).pos = x.pos + k from rfl, sh_drop hk]
  dsimp only
  generalize qLoop alw (s.drop x.pos) 0 none false false false = q
  rw [show ({ shX k I o x with pos := x.pos + k + q.2.1, start := stAt (shX k I o x) q.2.2.1 } : Lx) = shX k I o { x with pos := x.pos + q.2.1, start := stAt x q.2.2.1 } from by rw [sh_stAt, Nat.add_right_comm]; rfl]
  split
  · exact sh_fail _
  · split
    · rw [sh_emitE hk, sh_qEnd hk]; rfl
    · rw [sh_emitS, sh_qEnd hk]; rfl
theorem sh_raw {x : Lx} (ty : Nat) : raw (pre ++ s) ty (shX k I o x) = shR k I o (raw s ty x) := by
  unfold raw
  rw [show (shX k I o x).pos = x.pos + k from rfl, sh_drop hk]
  dsimp only
  generalize rLoop (s.drop x.pos) 0 none false = q
  rw [show ({ shX k I o x with pos := x.pos + k + q.2.1, start := stAt (shX k I o x) q.2.2 } : Lx) = shX k I o { x with pos := x.pos + q.2.1, start := stAt x q.2.2 } from by rw [sh_stAt, Nat.add_right_comm]; rfl]
  split
  · exact sh_fail _
  · rw [sh_emitS, sh_mv, sh_ign]; rfl
theorem sh_param {E : Env} {x : Lx} (esc : Bool) : param E (pre ++ s) esc (shX k I o x) = shR k I o (param E s esc x) := by
  unfold param
  rw [show (shX k I o x).pos = x.pos + k from rfl, sh_drop hk, show (shX k I o x).par = x.par from rfl]
  dsimp only
  rw [sh_mv, sh_mv]
  split
  · split
    · exact sh_fail _
    · split
      · exact sh_quoted hk (x := { x with par := 1 }) _ _
      · exact sh_raw hk (x := { x with par := 1 }) _
  · split
    · exact sh_fail _
    · split
      · rw [show ∀ (y : Lx) (p : Nat), ({ shX k I o y with par := p } : Lx) = shX k I o { y with par := p } from fun _ _ => rfl, sh_emit]; rfl
      · split
        · exact sh_fail _
        · split
          · exact sh_fail _
          · rw [sh_emit]; rfl
theorem sh_ident {E : Env} {x : Lx} : ident E (pre ++ s) (shX k I o x) = shR k I o (ident E s x) := by
  unfold ident
  rw [show (shX k I o x).pos = x.pos + k from rfl, sh_drop hk, show (shX k I o x).inl = x.inl from rfl]
  dsimp only
  generalize idLoop E (s.drop x.pos) 0 x.inl = q
  have e1 : x.pos + k + q.2.1 = x.pos + q.2.1 + k := Nat.add_right_comm _ _ _
  have e2 : cut (pre ++ s) (shX k I o x).start (x.pos + k + q.2.1) = cut s x.start (x.pos + q.2.1) := by rw [e1]; exact sh_cut hk _ _
  rw [e2, e1, show (shX k I o x).op = x.op from rfl, show (shX k I o x).closing = x.closing from rfl]
  split
  · exact sh_fail (k := k) (I := I) (o := o) { x with pos := x.pos + q.2.1, inl := q.2.2 }
  · split
    · exact sh_fail (k := k) (I := I) (o := o) { x with pos := x.pos + q.2.1, inl := q.2.2 }
    · show (emit _ (shX k I o { x with pos := x.pos + q.2.1, inl := q.2.2, closing := 0, name := _, step := x.step + 1, op := _ }), _) = _
      rw [sh_emit]
      rfl
theorem sh_inside {E : Env} {x : Lx} : inside E (pre ++ s) (shX k I o x) = shR k I o (inside E s x) := by
  unfold inside
  rw [show (shX k I o x).pos = x.pos + k from rfl, sh_drop hk, show (shX k I o x).md = x.md from rfl, show (shX k I o x).name = x.name from rfl, show (shX k I o x).step = x.step from rfl]
  dsimp only
  split
  · rfl
  · split
    · exact sh_fail x
    · split
      · rw [sh_mv]; rfl
      · split
        · rw [sh_mv, sh_ign, show (shX k I o (ign (mv (1 + spN ((s.drop x.pos).drop 1)) x))).pos = (ign (mv (1 + spN ((s.drop x.pos).drop 1)) x)).pos + k from rfl, sh_drop hk]
          split
          · exact sh_quoted hk _ _
          · split
            · exact sh_raw hk _
            · rfl
        · split
          · split
            · rw [sh_mv]; exact sh_fail _
            · rw [sh_mv, show ∀ (y : Lx) (c : Nat) (b : Bool) (n : Nat), ({ shX k I o y with closing := c, inl := b, step := n } : Lx) = shX k I o { y with closing := c, inl := b, step := n } from fun _ _ _ _ => rfl, sh_emit]; rfl
          · split
            · rw [sh_mv, sh_ign, show (shX k I o (ign (mv 1 x))).pos = (ign (mv 1 x)).pos + k from rfl, sh_drop hk]
              split
              · exact sh_param hk _
              · rfl
            · split
              · exact sh_param hk _
              · split
                · rfl
                · rw [sh_mv]; exact sh_fail _
theorem sh_found {dv : Bool} (ho : dv = true → o = false) (x : Lx) : found (pre ++ s) dv (shX k I o x) = found s dv x := by
  unfold found
  rw [show (shX k I o x).pos = x.pos + k from rfl, sh_drop hk]
  cases dv
  · rfl
  · rw [show (shX k I o x).org = x.org from by show (o || x.org) = _; rw [ho rfl]; rfl]; rfl
theorem sh_piece {E : Env} {dv : Bool} (ho : dv = true → o = false) (x : Lx) : piece E (pre ++ s) dv (shX k I o x) = shR k I o (piece E s dv x) := by
  unfold piece
  rw [show (shX k I o x).pos = x.pos + k from rfl, sh_drop hk, sh_mv, sh_errI, sh_len hk, show (shX k I o x).inl = x.inl from rfl, show (shX k I o x).name = x.name from rfl]
  dsimp only
  split
  · split
    · rfl
    · rfl
  · have hd : dvOn dv (shX k I o x) = dvOn dv x := rfl
    rw [hd]
    cases dv
    · rfl
    · obtain rfl := ho rfl
      rw [show (shX k I false x).org = x.org from rfl]
      split
      · have e : x.pos + k + (divr x.org).length + spN ((s.drop x.pos).drop (divr x.org).length) = x.pos + (divr x.org).length + spN ((s.drop x.pos).drop (divr x.org).length) + k := by omega
        rw [e]
        show (emit 2 (shX k I false { x with chk := true, pos := x.pos + (divr x.org).length + spN ((s.drop x.pos).drop (divr x.org).length) }), _) = _
        rw [sh_emit]
        rfl
      · rfl
theorem sh_main {E : Env} {dv : Bool} (ho : dv = true → o = false) {x : Lx} (h : x.start ≤ x.pos) (hb : x.pos ≤ s.length) : main E (pre ++ s) dv (shX k I o x) = shR k I o (main E s dv x) := by
  unfold main
  rw [sh_found hk ho, sh_len hk, show (shX k I o x).pos = x.pos + k from rfl, show (shX k I o x).start = x.start + k from rfl]
  by_cases hl : s.length ≤ x.pos
  · rw [if_pos hl, if_pos (by omega)]; rfl
  · rw [if_neg hl, if_neg (by omega)]
    cases hf : found s dv x with
    | none => rfl
    | some q =>
      have hq := b_found hb h hf
      dsimp only
      rw [sh_mv]
      by_cases h2 : x.start < x.pos + q
      · rw [if_pos h2, if_pos (by omega), sh_emitT hk _ (by dsimp only [mv]; omega) (by dsimp only [mv]; omega)]
        exact sh_piece hk ho _
      · rw [if_neg h2, if_neg (by omega)]
        exact sh_piece hk ho _
def mainSt : St → Bool
  | .intro => false
  | .json => false
  | .org => false
  | _ => true
theorem sh_step {E : Env} {dv : Bool} (ho : dv = true → o = false) {st : St} (hst : mainSt st = true) {x : Lx} (h : x.start ≤ x.pos) (hb : x.pos ≤ s.length) : step E (pre ++ s) dv st (shX k I o x) = shR k I o (step E s dv st x) := by
  cases st with
  | main => exact sh_main hk ho h hb
  | done => exact sh_done hk h hb
  | left => exact sh_left hk
  | comment => exact sh_comment hk h hb
  | right => exact sh_right
  | inside => exact sh_inside hk
  | pval => exact sh_pval hk
  | ident => exact sh_ident hk
  | endsc => exact sh_endsc hk
  | intro => cases hst
  | json => cases hst
  | org => cases hst
end
theorem main_st {E : Env} {s : T} {dv : Bool} {st st' : St} {x y : Lx} (hst : mainSt st = true) (h : step E s dv st x = (y, some st')) : mainSt st' = true := by
  have q1 : ∀ a t x, (quoted s a t x).2 = some st' → mainSt st' = true := fun a t x h => by
    unfold quoted at h; dsimp only at h; split at h
    · cases h
    · cases h; rfl
  have r1 : ∀ t x, (raw s t x).2 = some st' → mainSt st' = true := fun t x h => by
    unfold raw at h; dsimp only at h; split at h
    · cases h
    · cases h; rfl
  have p1 : ∀ e x, (param E s e x).2 = some st' → mainSt st' = true := fun e x h => by
    unfold param at h; dsimp only at h
    split at h
    · split at h
      · cases h
      · split at h
        · exact q1 _ _ _ h
        · exact r1 _ _ h
    · split at h
      · cases h
      · split at h
        · cases h; rfl
        · split at h
          · cases h
          · split at h
            · cases h
            · cases h; rfl
  have pc : ∀ x, (piece E s dv x).2 = some st' → mainSt st' = true := fun x h => by
    unfold piece at h; dsimp only at h
    split at h
    · split at h <;> (cases h; rfl)
    · split at h <;> (cases h; rfl)
  have h : (step E s dv st x).2 = some st' := by rw [h]
  cases st with
  | main =>
    have h : (main E s dv x).2 = some st' := h
    unfold main at h
    split at h
    · cases h; rfl
    · split at h
      · cases h; rfl
      · exact pc _ h
  | done => cases h
  | left => have h : (left s x).2 = some st' := h; unfold left at h; split at h <;> (cases h; rfl)
  | comment => have h : (comment s x).2 = some st' := h; unfold comment at h; split at h; cases h; split at h; cases h; cases h; rfl
  | right => cases h; rfl
  | inside =>
    have h : (inside E s x).2 = some st' := h
    unfold inside at h; dsimp only at h
    split at h
    · cases h; rfl
    · split at h
      · cases h
      · split at h
        · cases h; rfl
        · split at h
          · split at h
            · exact q1 _ _ _ h
            · split at h
              · exact r1 _ _ h
              · cases h; rfl
          · split at h
            · split at h
              · cases h
              · cases h; rfl
            · split at h
              · split at h
                · exact p1 _ _ h
                · cases h; rfl
              · split at h
                · exact p1 _ _ h
                · split at h
                  · cases h; rfl
                  · cases h
  | pval => cases h; rfl
  | ident =>
    have h : (ident E s x).2 = some st' := h
    unfold ident at h; dsimp only at h
    split at h
    · cases h
    · split at h
      · cases h
      · cases h
        split <;> rfl
  | endsc =>
    have h : (endsc s x).2 = some st' := h
    unfold endsc at h; dsimp only at h
    split at h
    · cases h; rfl
    · split at h
      · cases h
      · split at h
        · cases h; rfl
        · cases h
  | intro => cases hst
  | json => cases hst
  | org => cases hst
theorem shR_mk (k : Nat) (I : List Itm) (o : Bool) (x : Lx) (u : Option St) : shR k I o (x, u) = (shX k I o x, u) := rfl
theorem sh_runs {pre s : T} {k : Nat} {I : List Itm} {o : Bool} (hk : pre.length = k) {E : Env} (hal : E.al (-1) = false) {dv : Bool} (ho : dv = true → o = false) {st : St} {x : Lx} {l : List Itm} (h : Runs E s dv st x l) : mainSt st = true → Good E s st x → Runs E (pre ++ s) dv st (shX k I o x) (I ++ l.map (shI k)) := by
  induction h with
  | stop h1 =>
    intro hst hg
    have := sh_step (I := I) hk ho (E := E) hst hg.sp hg.p
    rw [h1, shR_mk] at this
    exact .stop this
  | go h1 _ ih =>
    intro hst hg
    have := sh_step (I := I) hk ho (E := E) hst hg.sp hg.p
    rw [h1, shR_mk] at this
    exact .go this (ih (main_st hst h1) (step_good hal hg h1).1)
def isW (c : UInt8) : Bool := decide (48 ≤ c.toNat) && decide (c.toNat ≤ 57) || decide (65 ≤ c.toNat) && decide (c.toNat ≤ 90) || decide (97 ≤ c.toNat) && decide (c.toNat ≤ 122) || c.toNat == 95
structure EA (E : Env) : Prop where
  al : ∀ c : UInt8, c.toNat < 128 → E.al (c.toNat : Int) = isW c
  neg : E.al (-1) = false
theorem isW_lt {c : UInt8} (h : isW c = true) : c.toNat < 128 := by
  unfold isW at h
  simp only [Bool.or_eq_true, Bool.and_eq_true, decide_eq_true_eq, beq_iff_eq] at h
  omega
theorem pre_app (p r : T) : p.isPrefixOf (p ++ r) = true := List.isPrefixOf_iff_prefix.2 (List.prefix_append _ _)
def escT (v : T) : T := v.flatMap fun c => if c = 34 then [92, 34] else [c]
theorem escT_plain {v : T} (h : ∀ c ∈ v, c ≠ 34) : escT v = v := by
  induction v with
  | nil => rfl
  | cons c v ih => show (if c = 34 then [92, 34] else [c]) ++ escT v = _; rw [if_neg (h c (List.mem_cons_self ..)), ih (fun c hc => h c (List.mem_cons_of_mem _ hc))]; rfl
section
variable {E : Env} {s : T} {dv : Bool} {x : Lx}
def isN (c : UInt8) : Bool := isW c || c.toNat == 45 || c.toNat == 47
def isP (c : UInt8) : Bool := isW c || c.toNat == 45 || c.toNat == 46
end
end Go.Proofs.YtkehggbmpdacpacGreatDoor.Lex0
namespace Go.Proofs.YtkehggbmpdacpacGreatDoor.Txt0
open Go Go.Lib Go.Proofs.YtkehggbmpdacpacGreatDoor.Dec0
def hasT (x : T) : T → Bool
  | [] => x.isEmpty
  | c :: r => x.isPrefixOf (c :: r) || hasT x r
theorem hasT_short (x : T) : ∀ l : T, l.length < x.length → hasT x l = false
  | [], h => by cases x with
    | nil => simp at h
    | cons a b => rfl
  | c :: r, h => by
    rw [hasT, hasT_short x r (by simp at h; omega), Bool.or_false]
    cases hp : x.isPrefixOf (c :: r) with
    | false => rfl
    | true =>
      have := (List.isPrefixOf_iff_prefix.1 hp).length_le
      simp at h this
      omega
theorem hasT_drop (x l : T) (hx : x ≠ []) : hasT x l = (x.isPrefixOf l || hasT x (l.drop 1)) := by
  cases l with
  | nil =>
    cases x with
    | nil => exact absurd rfl hx
    | cons a b => rfl
  | cons c r => rfl
theorem pre_take {x l : T} : x.isPrefixOf l = decide (l.take x.length = x) := by
  rw [Bool.eq_iff_iff, decide_eq_true_eq, List.isPrefixOf_iff_prefix]
  exact ⟨fun h => (List.prefix_iff_eq_take.1 h).symm, fun h => h ▸ List.take_prefix _ _⟩
theorem data_inj {a b : ByteArray} : a = b ↔ a.data.toList = b.data.toList := by
  constructor
  · rintro rfl; rfl
  · intro h
    cases a; cases b
    simp at h
    rw [h]
theorem ext_list (s : ByteArray) (a b : Nat) : (s.extract a b).data.toList = (s.data.toList.drop a).take (b - a) := by
  simp [List.drop_take]
theorem size_list (s : ByteArray) : s.data.toList.length = s.size := by rw [Array.length_toList]; rfl
theorem piece_eq (s x : ByteArray) (j k : Nat) (hk : k = j + x.size) : decide (s.extract j k = x) = x.data.toList.isPrefixOf (s.data.toList.drop j) := by
  subst hk
  rw [pre_take]
  congr 1
  rw [data_inj, ext_list, size_list, show j + x.size - j = x.size by omega]
def isAsc (c : UInt8) : Bool := decide (c.toNat ≤ 126) && (decide (32 ≤ c.toNat) || c.toNat == 10 || c.toNat == 9)
end Go.Proofs.YtkehggbmpdacpacGreatDoor.Txt0
namespace Go.Proofs.YtkehggbmpdacpacGreatDoor.Lex0
open Go.Proofs.YtkehggbmpdacpacGreatDoor.Dec0 Go.Proofs.YtkehggbmpdacpacGreatDoor.Txt0
theorem idx_cons (p : T) (c : UInt8) (r : T) : idx p (c :: r) = if p.isPrefixOf (c :: r) then some 0 else (idx p r).map (· + 1) := by rw [idx]
theorem idx_has {p : T} (hp : p ≠ []) : ∀ l : T, hasT p l = (idx p l).isSome := by
  intro l
  induction l with
  | nil =>
    cases p with
    | nil => exact absurd rfl hp
    | cons a b => rfl
  | cons c r ih =>
    rw [hasT, idx_cons, ih]
    by_cases h : p.isPrefixOf (c :: r) = true
    · rw [h, if_pos rfl]; rfl
    · rw [Bool.eq_false_iff.2 h, if_neg (by simp)]
      cases idx p r <;> rfl
theorem idx_skip {k : UInt8} {p : T} : ∀ (u : T) {v : T}, (∀ c ∈ u, c ≠ k) → idx (k :: p) (u ++ v) = (idx (k :: p) v).map (· + u.length) := by
  intro u
  induction u with
  | nil => intro v _; cases h : idx (k :: p) v <;> simp [h]
  | cons c u ih =>
    intro v h
    have hc := h c (List.mem_cons_self ..)
    show idx (k :: p) (c :: (u ++ v)) = _
    rw [idx_cons, if_neg, ih (fun c hc => h c (List.mem_cons_of_mem _ hc))]
    · cases idx (k :: p) v <;> simp [Nat.add_assoc]
    · show ¬ ((k == c && _) = true)
      rw [show (k == c) = false from by simpa using fun e => hc e.symm]
      simp
theorem idx_nil {p : T} (hp : p ≠ []) : idx p [] = none := by rw [idx, if_neg hp]
theorem idx_drop {p : T} (hp : p ≠ []) : ∀ (l : T) (n : Nat), idx p l = none → idx p (l.drop n) = none := by
  intro l
  induction l with
  | nil => intro n h; rw [List.drop_nil]; exact h
  | cons c r ih =>
    intro n h
    cases n with
    | zero => exact h
    | succ n =>
      rw [List.drop_succ_cons]
      rw [idx_cons] at h
      split at h
      · cases h
      · exact ih n (by cases hr : idx p r with
          | none => rfl
          | some k => rw [hr] at h; cases h)
theorem divr_ne (org : Bool) : divr org ≠ [] := by cases org <;> simp [divr]
section
variable {E : Env} {s : T} {dv : Bool} {x : Lx}
theorem found_none {u : T} (hd : s.drop x.pos = u) (h1 : idx lsc u = none) (h2 : dvOn dv x = true → idx (divr x.org) u = none) : found s dv x = none := by
  unfold found
  rw [hd, h1]
  cases ho : dvOn dv x with
  | false => rfl
  | true => rw [if_pos rfl, h2 ho]; rfl
def opn (s : T) (a b : Nat) : List Itm := if a < b then txts s a b else []
theorem left_in {r : T} (hd : s.drop (x.pos + 3) = r) (hc : [47, 42].isPrefixOf r = false) : step E s dv .left x = ({ x with pos := x.pos + 3, start := x.pos + 3, step := 0, par := 0, items := x.items ++ [mk (if x.md then 10 else 8) x.start (x.pos + 3)] }, some .inside) := by
  show left s x = _
  unfold left
  rw [hd, hc, if_neg (by simp)]
  rfl
theorem go_end (hs : x.start ≤ x.pos) (hp : x.pos ≤ s.length) (hf : s.length ≤ x.pos ∨ found s dv x = none) : Runs E s dv .main x (x.items ++ opn s x.start s.length ++ [mk 1 s.length s.length]) := by
  have key : ∀ y : Lx, y.pos = s.length → y.start = x.start → y.items = x.items → Runs E s dv .done y (x.items ++ opn s x.start s.length ++ [mk 1 s.length s.length]) := fun y h1 h2 h3 => by
    have : step E s dv .done y = ((done s y).1, none) := rfl
    have h4 := Runs.stop (E := E) (dv := dv) this
    have h5 : (done s y).1.items = x.items ++ opn s x.start s.length ++ [mk 1 s.length s.length] := by
      unfold done opn
      rw [h1, h2]
      by_cases h : x.start < s.length
      · rw [if_pos h, if_pos h]
        show (y.items ++ txts s y.start y.pos) ++ [mk 1 y.pos y.pos] = _
        rw [h1, h2, h3]
      · rw [if_neg h, if_neg h]
        show y.items ++ [mk 1 y.start y.pos] = _
        rw [h1, h2, h3, List.append_nil, show x.start = s.length by omega]
    rw [h5] at h4
    exact h4
  by_cases h : s.length ≤ x.pos
  · refine .go (st' := .done) (y := x) ?_ (key x (by omega) rfl rfl)
    show main E s dv x = _
    unfold main
    rw [if_pos h]
  · refine .go (st' := .done) (y := { x with pos := s.length }) ?_ (key _ rfl rfl rfl)
    show main E s dv x = _
    unfold main
    rw [if_neg h, hf.resolve_left h]
end
structure Kp (s : T) (x y : Lx) : Prop where
  o : y.org = x.org
  c : x.chk = true → y.chk = true
  n : y.name = x.name ∨ ∃ a b, y.name = ba (cut s a b)
theorem Kp.refl (s : T) (x : Lx) : Kp s x x := ⟨rfl, fun h => h, .inl rfl⟩
theorem Kp.same {s : T} {x y : Lx} (h1 : y.org = x.org) (h2 : y.chk = x.chk) (h3 : y.name = x.name) : Kp s x y := ⟨h1, fun h => by rw [h2]; exact h, .inl h3⟩
theorem kp_emitE (s : T) (t : Nat) (x : Lx) : Kp s x (emitE t s x) := by
  unfold emitE
  split <;> exact .same rfl rfl rfl
theorem kp_qEnd (s : T) (x : Lx) : Kp s x (qEnd s x) := by
  unfold qEnd
  split <;> exact .same rfl rfl rfl
theorem Kp.trans {s : T} {x y z : Lx} (h : Kp s x y) (k : Kp s y z) : Kp s x z := ⟨k.o.trans h.o, fun e => k.c (h.c e), by
  rcases k.n with h1 | h1
  · rw [h1]; exact h.n
  · exact .inr h1⟩
theorem kp_quoted (s : T) (alw : Bool) (ty : Nat) (x : Lx) : Kp s x (quoted s alw ty x).1 := by
  unfold quoted
  dsimp only
  split
  · exact .same rfl rfl rfl
  · split
    · refine Kp.trans ?_ (kp_qEnd s _); refine Kp.trans ?_ (kp_emitE s ty _); exact .same rfl rfl rfl
    · refine Kp.trans ?_ (kp_qEnd s _); exact .same rfl rfl rfl
theorem kp_raw (s : T) (ty : Nat) (x : Lx) : Kp s x (raw s ty x).1 := by
  unfold raw
  dsimp only
  split <;> exact .same rfl rfl rfl
theorem kp_param (E : Env) (s : T) (esc : Bool) (x : Lx) : Kp s x (param E s esc x).1 := by
  unfold param
  dsimp only
  split
  · split
    · exact .same rfl rfl rfl
    · split
      · refine Kp.trans ?_ (kp_quoted s _ _ _); exact .same rfl rfl rfl
      · refine Kp.trans ?_ (kp_raw s _ _); exact .same rfl rfl rfl
  · split
    · exact .same rfl rfl rfl
    · split
      · exact .same rfl rfl rfl
      · split
        · exact .same rfl rfl rfl
        · split <;> exact .same rfl rfl rfl
theorem kp_inside (E : Env) (s : T) (x : Lx) : Kp s x (inside E s x).1 := by
  unfold inside
  dsimp only
  split
  · exact .refl s x
  · split
    · exact .same rfl rfl rfl
    · split
      · exact .same rfl rfl rfl
      · split
        · split
          · refine Kp.trans ?_ (kp_quoted s _ _ _); exact .same rfl rfl rfl
          · split
            · refine Kp.trans ?_ (kp_raw s _ _); exact .same rfl rfl rfl
            · exact .same rfl rfl rfl
        · split
          · split <;> exact .same rfl rfl rfl
          · split
            · split
              · refine Kp.trans ?_ (kp_param E s _ _); exact .same rfl rfl rfl
              · exact .same rfl rfl rfl
            · split
              · exact kp_param E s _ _
              · split
                · exact .refl s x
                · exact .same rfl rfl rfl
theorem kp_ident (E : Env) (s : T) (x : Lx) : Kp s x (ident E s x).1 := by
  unfold ident
  dsimp only
  split
  · exact .same rfl rfl rfl
  · split
    · exact .same rfl rfl rfl
    · exact ⟨rfl, fun h => h, .inr ⟨_, _, rfl⟩⟩
theorem kp_piece (E : Env) (s : T) (dv : Bool) (x : Lx) : Kp s x (piece E s dv x).1 := by
  unfold piece
  dsimp only
  split
  · split <;> exact .same rfl rfl rfl
  · split
    · exact ⟨rfl, fun _ => rfl, .inl rfl⟩
    · exact .same rfl rfl rfl
theorem kp_main (E : Env) (s : T) (dv : Bool) (x : Lx) : Kp s x (main E s dv x).1 := by
  unfold main
  split
  · exact .refl s x
  · split
    · exact .same rfl rfl rfl
    · split
      · refine Kp.trans ?_ (kp_piece E s dv _); exact .same rfl rfl rfl
      · refine Kp.trans ?_ (kp_piece E s dv _); exact .same rfl rfl rfl
theorem kp_step {E : Env} {s : T} {dv : Bool} {st : St} (hst : mainSt st = true) (x : Lx) : Kp s x (step E s dv st x).1 := by
  cases st with
  | main => exact kp_main E s dv x
  | done => show Kp s x (done s x).1; unfold done; split <;> exact .same rfl rfl rfl
  | left => show Kp s x (left s x).1; unfold left; split <;> exact .same rfl rfl rfl
  | comment =>
    show Kp s x (comment s x).1
    unfold comment
    split
    · exact .same rfl rfl rfl
    · split <;> exact .same rfl rfl rfl
  | right => exact .same rfl rfl rfl
  | inside => exact kp_inside E s x
  | pval => exact .same rfl rfl rfl
  | ident => exact kp_ident E s x
  | endsc =>
    show Kp s x (endsc s x).1
    unfold endsc
    dsimp only
    split
    · exact .same rfl rfl rfl
    · split
      · exact .same rfl rfl rfl
      · split <;> exact .same rfl rfl rfl
  | intro => cases hst
  | json => cases hst
  | org => cases hst
theorem ba_size_le (s : T) (a b : Nat) : (ba (cut s a b)).size ≤ s.length := by
  have : (ba (cut s a b)).size = (cut s a b).length := by simp [ba, ByteArray.size]
  rw [this]
  unfold cut
  rw [List.length_take, List.length_drop]
  omega
end Go.Proofs.YtkehggbmpdacpacGreatDoor.Lex0
namespace Go.Proofs.YtkehggbmpdacpacGreatDoor.Pg
open Go.Rx hiding bt
open Go.RowKit Go.Proofs.YtkehggbmpdacpacGreatDoor.Dec0 Go.Proofs.YtkehggbmpdacpacGreatDoor.Lex0
theorem bo103 : bodyB Tryz.prog 75 = true := by kernel_rfl
theorem bo104 : bodyB Tryz.prog 76 = true := by kernel_rfl
theorem bo120 : bodyB Tryz.prog 93 = true := by kernel_rfl
theorem fb136_0 : fieldB Tryz.prog 108 0 = some 0 := by kernel_rfl
theorem fb136_1 : fieldB Tryz.prog 108 1 = some 1 := by kernel_rfl
theorem fb136_2 : fieldB Tryz.prog 108 2 = some 2 := by kernel_rfl
theorem fb136_3 : fieldB Tryz.prog 108 3 = some 3 := by kernel_rfl
theorem fb142_0 : fieldB Tryz.prog 114 0 = some 0 := by kernel_rfl
theorem fb142_1 : fieldB Tryz.prog 114 1 = some 1 := by kernel_rfl
theorem fb142_2 : fieldB Tryz.prog 114 2 = some 2 := by kernel_rfl
theorem fb142_3 : fieldB Tryz.prog 114 3 = some 3 := by kernel_rfl
theorem und133 : Tryz.prog.underlying 105 = some (.slice 109) := by kernel_rfl
theorem sz137 : szB Tryz.prog 109 1 = true := by kernel_rfl
theorem gr134 : growB Tryz.prog 106 3 1 8 = true := by kernel_rfl
structure Sec where
  gh : Nat
  g1 : Nat
  g2 : Nat
  gk : Nat
  kn : Nat
  kc : Nat
  kcs : List Value
  dv : Bool
  all : Bool
  s1 : Bool
  s2 : Bool
def pS (H : Hd) : Value := .pointer (some ⟨H.gS, 0, none⟩)
def sB (dv : Bool) (H : Hd) (S : Sec) : Nat × List Value × Bk := (H.gS, [pL H, .bool S.all, .slice (some ⟨S.gh, 0, none⟩) (bif dv then 2 else 1) 2, .slice (some ⟨S.gk, 0, none⟩) S.kn S.kc], .c 108)
def hB (dv : Bool) (S : Sec) : Nat × List Value × Bk := (S.gh, [.pointer (some ⟨S.g1, 0, none⟩), bif dv then .pointer (some ⟨S.g2, 0, none⟩) else .pointer none], .c 109)
def h1B (H : Hd) (S : Sec) : Nat × List Value × Bk := (S.g1, [pL H, .bool S.s1, fnV 107, fnV 110], .c 114)
def h2B (H : Hd) (S : Sec) : Nat × List Value × Bk := (S.g2, [pL H, .bool S.s2, fnV 115, fnV 116], .c 114)
def kB (S : Sec) : Nat × List Value × Bk := (S.gk, S.kcs, .c 3)
def secD (dv : Bool) (H : Hd) (S : Sec) : Mem := sB dv H S :: hB dv S :: h1B H S :: kB S :: (bif dv then [h2B H S] else [])
def secM (H : Hd) (S : Sec) : Mem := secD S.dv H S
theorem secM_eq {H : Hd} {S : Sec} {b : Bool} (h : S.dv = b) : secM H S = secD b H S := by unfold secM; rw [h]
structure SecMay (X : Cx) (H : Hd) (S : Sec) : Prop where
  s : X.may H.gS
  m1 : X.may S.g1
  m2 : X.may S.g2
  my : X.may S.gk
  kl : S.kcs.length = S.kc
  kx : S.kc ≤ maxLen
theorem SecMay.sub {X : Cx} {H : Hd} {S : Sec} (h : SecMay X H S) (n : Nat) (w : World) : SecMay (X.sub n w) H S := ⟨Cx.may_sub h.s, Cx.may_sub h.m1, Cx.may_sub h.m2, Cx.may_sub h.my, h.kl, h.kx⟩
theorem SecMay.up {X : Cx} {H : Hd} {S : Sec} {m : Mem} {n : Nat} {w : World} (hw : Cl X m w) (h : SecMay (X.sub n w) H S) : SecMay X H S := ⟨Cx.may_up hw h.s, Cx.may_up hw h.m1, Cx.may_up hw h.m2, Cx.may_up hw h.my, h.kl, h.kx⟩
def optI : Option Nat → Int
  | none => -1
  | some k => k
theorem idxI_opt (p l : T) : idxI p l = optI (idx p l) := by
  unfold idxI optI
  cases idx p l <;> rfl
def idxD (s : T) (x : Lx) : Option Nat := if x.chk then none else idx (divr x.org) (s.drop x.pos)
set_option maxHeartbeats 1000000 in
theorem hskip1_calls {X : Cx} {H : Hd} {G : Mem} (hX : Ok X H) {S : Sec} (hSm : SecMay X H S) {x : Lx} {q : RS} (hp : x.pos ≤ H.s.length) (hs1 : S.s1 = true → idx lsc (H.s.drop x.pos) = none) (st : Value) (W gd : Nat) : ∀ w, Cl X (cM H x st W gd q (secM H S) G) w →
    Calls Tryz.prog 93 #[.pointer (some ⟨S.g1, 0, none⟩)] w fun e w' => e = .returned (.int .i64 (optI (idx lsc (H.s.drop x.pos)))) ∧ Cl X (cM H x st W gd q (secM H { S with s1 := (idx lsc (H.s.drop x.pos)).isNone }) G) w' := by
  intro w hw
  refine enterC 23 hw Tryz.func93 rfl rfl (vs := [.pointer (some ⟨S.g1, 0, none⟩)]) rfl ?_
  replace hX := hX.sub hw 23
  replace hSm := hSm.sub 23 w
  conv => arg 2; arg 2; whnf
  have hI := idxI_opt lsc (H.s.drop x.pos)
  rcases (Bool.eq_false_or_eq_true S.s1).symm with hv | hv
  · cases hi : idx lsc (H.s.drop x.pos) with
    | none =>
      rw [hi] at hI
      obtain ⟨z, hz⟩ : ∃ z : Int, z = optI none := ⟨_, rfl⟩
      have hz1 : z = -1 := hz
      rw [← hz] at hI ⊢
      repeat' (first | refine cfalse (congrArg (fun b => some (Value.bool b)) hv) ?_ | first | (show PJ _ (Code.wp _ _ _) _ _; first | refine cseq ?_ | refine rtext ?_ | refine ctrue rfl ?_ | refine cskip ?_ | refine cret ?_ | (show PJ _ (Code.wp _ (Code.region 3 _ true) _) _ _; refine rtail 8 mixed (by kernel_rfl) ?_)) | (show PJ _ (wpList _ _ _ _) _ _; refine jlist ?_) | refine jnil ?_ | (first | refine jmv rfl rfl rfl ?_ | refine jy (ynil rfl) rfl rfl ?_ | (show Jo _ (.fieldAddr _ _ _); refine jy (yfield rfl (by first | exact fb142_0 | exact fb142_1 | exact fb142_2) rfl) rfl rfl ?_) | (show Jo _ (.load _ _); refine jy (yload (i := 7) rfl rfl rfl one4) rfl rfl ?_) | refine jas_ rfl rfl rfl ?_ | (show Jo _ (.binOp _ _ _ _ _); ((show Jo _ (.binOp .eql _ _ _ _); refine jy (yeql rfl rfl (by (exact decide_eq_true (by omega)))) rfl rfl ?_))) | (show Jo _ (.store _ _ _); refine jstore (i := 7) rfl rfl rfl rfl rfl si4 hSm.m1 ?_) | (show Jo _ (.call _); ((show Jo (some 16) (.call _); refine jcallC (k := 107) (us := []) (vs := [pL H]) (ι := Unit) (v := fun _ => .int .i64 (idxI lsc (H.s.drop x.pos))) (m' := fun _ => cM H x st W gd q (secM H S) G) (fun _ => True) rfl bo134 rfl rfl rfl (fun w' hw' => (skip1_calls hX (lsOf x st W (fV gd (divr x.org)) q.val) hp w' hw').mono fun e w'' h => ⟨(), h.1, h.2, trivial⟩) (fun _ _ => ?_); rw [hI])))))
      exact ret1 rfl rfl rfl (fun w' hw' => ⟨rfl, hw.up hw'⟩)
    | some k =>
      rw [hi] at hI
      obtain ⟨z, hz⟩ : ∃ z : Int, z = optI (some k) := ⟨_, rfl⟩
      have hz1 : z = (k : Int) := hz
      rw [← hz] at hI ⊢
      have hSe : ({ S with s1 := (some k).isNone } : Sec) = S := by cases S; dsimp only at hv; subst hv; rfl
      rw [hSe]
      repeat' (first | refine cfalse (congrArg (fun b => some (Value.bool b)) hv) ?_ | first | (show PJ _ (Code.wp _ _ _) _ _; first | refine cseq ?_ | refine rtext ?_ | refine cfalse rfl ?_ | refine cskip ?_ | refine cret ?_ | (show PJ _ (Code.wp _ (Code.region 3 _ true) _) _ _; refine rtail 8 mixed (by kernel_rfl) ?_)) | (show PJ _ (wpList _ _ _ _) _ _; refine jlist ?_) | refine jnil ?_ | (first | refine jmv rfl rfl rfl ?_ | refine jy (ynil rfl) rfl rfl ?_ | (show Jo _ (.fieldAddr _ _ _); refine jy (yfield rfl (by first | exact fb142_0 | exact fb142_1 | exact fb142_2) rfl) rfl rfl ?_) | (show Jo _ (.load _ _); refine jy (yload (i := 7) rfl rfl rfl one4) rfl rfl ?_) | refine jas_ rfl rfl rfl ?_ | (show Jo _ (.binOp _ _ _ _ _); ((show Jo _ (.binOp .eql _ _ _ _); refine jy (yeql rfl rfl (by (exact decide_eq_false (by omega)))) rfl rfl ?_))) | (show Jo _ (.call _); ((show Jo (some 16) (.call _); refine jcallC (k := 107) (us := []) (vs := [pL H]) (ι := Unit) (v := fun _ => .int .i64 (idxI lsc (H.s.drop x.pos))) (m' := fun _ => cM H x st W gd q (secM H S) G) (fun _ => True) rfl bo134 rfl rfl rfl (fun w' hw' => (skip1_calls hX (lsOf x st W (fV gd (divr x.org)) q.val) hp w' hw').mono fun e w'' h => ⟨(), h.1, h.2, trivial⟩) (fun _ _ => ?_); rw [hI])))))
      exact ret1 rfl rfl rfl (fun w' hw' => ⟨rfl, hw.up hw'⟩)
  · have hi := hs1 hv
    rw [hi]
    have hSe : ({ S with s1 := (none : Option Nat).isNone } : Sec) = S := by cases S; dsimp only at hv; subst hv; rfl
    rw [hSe]
    repeat' (first | refine ctrue (congrArg (fun b => some (Value.bool b)) hv) ?_ | first | refine cseq ?_ | refine rtext ?_ | refine cret ?_ | refine tret ?_ | refine jnil ?_ | (first | refine jmv rfl rfl rfl ?_ | refine jy (ynil rfl) rfl rfl ?_ | (show Jo _ (.fieldAddr _ _ _); refine jy (yfield rfl fb142_1 rfl) rfl rfl ?_) | (show Jo _ (.load _ _); refine jy (yload (i := 7) rfl rfl rfl one4) rfl rfl ?_) | refine jas_ rfl rfl rfl ?_))
    exact ret1 rfl rfl rfl (fun w' hw' => ⟨rfl, hw.up hw'⟩)
set_option maxHeartbeats 1000000 in
theorem hskip2_calls {X : Cx} {H : Hd} {G : Mem} (hX : Ok X H) {S : Sec} (hSm : SecMay X H S) (hdv : S.dv = true) {x : Lx} {q : RS} (hp : x.pos ≤ H.s.length) (hs2 : S.s2 = true → idxD H.s x = none) (st : Value) (W gd : Nat) : ∀ w, Cl X (cM H x st W gd q (secM H S) G) w →
    Calls Tryz.prog 93 #[.pointer (some ⟨S.g2, 0, none⟩)] w fun e w' => e = .returned (.int .i64 (optI (idxD H.s x))) ∧ Cl X (cM H x st W gd q (secM H { S with s2 := (idxD H.s x).isNone }) G) w' := by
  intro w hw
  rw [secM_eq (S := S) hdv] at hw
  rw [secM_eq (S := { S with s2 := (idxD H.s x).isNone }) hdv]
  refine enterC 23 hw Tryz.func93 rfl rfl (vs := [.pointer (some ⟨S.g2, 0, none⟩)]) rfl ?_
  replace hX := hX.sub hw 23
  replace hSm := hSm.sub 23 w
  conv => arg 2; arg 2; whnf
  have hI : (if x.chk then -1 else idxI (divr x.org) (H.s.drop x.pos)) = optI (idxD H.s x) := by
    unfold idxD
    cases x.chk
    · rw [if_neg (by simp), if_neg (by simp)]; exact idxI_opt _ _
    · rw [if_pos rfl, if_pos rfl]; rfl
  rcases (Bool.eq_false_or_eq_true S.s2).symm with hv | hv
  · cases hi : idxD H.s x with
    | none =>
      rw [hi] at hI
      obtain ⟨z, hz⟩ : ∃ z : Int, z = optI none := ⟨_, rfl⟩
      have hz1 : z = -1 := hz
      rw [← hz] at hI ⊢
      repeat' (first | refine cfalse (congrArg (fun b => some (Value.bool b)) hv) ?_ | first | (show PJ _ (Code.wp _ _ _) _ _; first | refine cseq ?_ | refine rtext ?_ | refine ctrue rfl ?_ | refine cskip ?_ | refine cret ?_ | (show PJ _ (Code.wp _ (Code.region 3 _ true) _) _ _; refine rtail 8 mixed (by kernel_rfl) ?_)) | (show PJ _ (wpList _ _ _ _) _ _; refine jlist ?_) | refine jnil ?_ | (first | refine jmv rfl rfl rfl ?_ | refine jy (ynil rfl) rfl rfl ?_ | (show Jo _ (.fieldAddr _ _ _); refine jy (yfield rfl (by first | exact fb142_0 | exact fb142_1 | exact fb142_2) rfl) rfl rfl ?_) | (show Jo _ (.load _ _); refine jy (yload (i := 9) rfl rfl rfl one4) rfl rfl ?_) | refine jas_ rfl rfl rfl ?_ | (show Jo _ (.binOp _ _ _ _ _); ((show Jo _ (.binOp .eql _ _ _ _); refine jy (yeql rfl rfl (by (exact decide_eq_true (by omega)))) rfl rfl ?_))) | (show Jo _ (.store _ _ _); refine jstore (i := 9) rfl rfl rfl rfl rfl si4 hSm.m2 ?_) | (show Jo _ (.call _); ((show Jo (some 16) (.call _); refine jcallC (k := 115) (us := []) (vs := [pL H]) (ι := Unit) (v := fun _ => .int .i64 (if x.chk then -1 else idxI (divr x.org) (H.s.drop x.pos))) (m' := fun _ => cM H x st W gd q (secD true H S) G) (fun _ => True) rfl bo142 rfl rfl rfl (fun w' hw' => (skip2_calls hX hp st W gd w' hw').mono fun e w'' h => ⟨(), h.1, h.2, trivial⟩) (fun _ _ => ?_); rw [hI])))))
      exact ret1 rfl rfl rfl (fun w' hw' => ⟨rfl, hw.up hw'⟩)
    | some k =>
      rw [hi] at hI
      obtain ⟨z, hz⟩ : ∃ z : Int, z = optI (some k) := ⟨_, rfl⟩
      have hz1 : z = (k : Int) := hz
      rw [← hz] at hI ⊢
      have hSe : ({ S with s2 := (some k).isNone } : Sec) = S := by cases S; dsimp only at hv; subst hv; rfl
      rw [hSe]
      repeat' (first | refine cfalse (congrArg (fun b => some (Value.bool b)) hv) ?_ | first | (show PJ _ (Code.wp _ _ _) _ _; first | refine cseq ?_ | refine rtext ?_ | refine cfalse rfl ?_ | refine cskip ?_ | refine cret ?_ | (show PJ _ (Code.wp _ (Code.region 3 _ true) _) _ _; refine rtail 8 mixed (by kernel_rfl) ?_)) | (show PJ _ (wpList _ _ _ _) _ _; refine jlist ?_) | refine jnil ?_ | (first | refine jmv rfl rfl rfl ?_ | refine jy (ynil rfl) rfl rfl ?_ | (show Jo _ (.fieldAddr _ _ _); refine jy (yfield rfl (by first | exact fb142_0 | exact fb142_1 | exact fb142_2) rfl) rfl rfl ?_) | (show Jo _ (.load _ _); refine jy (yload (i := 9) rfl rfl rfl one4) rfl rfl ?_) | refine jas_ rfl rfl rfl ?_ | (show Jo _ (.binOp _ _ _ _ _); ((show Jo _ (.binOp .eql _ _ _ _); refine jy (yeql rfl rfl (by (exact decide_eq_false (by omega)))) rfl rfl ?_))) | (show Jo _ (.call _); ((show Jo (some 16) (.call _); refine jcallC (k := 115) (us := []) (vs := [pL H]) (ι := Unit) (v := fun _ => .int .i64 (if x.chk then -1 else idxI (divr x.org) (H.s.drop x.pos))) (m' := fun _ => cM H x st W gd q (secD true H S) G) (fun _ => True) rfl bo142 rfl rfl rfl (fun w' hw' => (skip2_calls hX hp st W gd w' hw').mono fun e w'' h => ⟨(), h.1, h.2, trivial⟩) (fun _ _ => ?_); rw [hI])))))
      exact ret1 rfl rfl rfl (fun w' hw' => ⟨rfl, hw.up hw'⟩)
  · have hi := hs2 hv
    rw [hi]
    have hSe : ({ S with s2 := (none : Option Nat).isNone } : Sec) = S := by cases S; dsimp only at hv; subst hv; rfl
    rw [hSe]
    repeat' (first | refine ctrue (congrArg (fun b => some (Value.bool b)) hv) ?_ | first | refine cseq ?_ | refine rtext ?_ | refine cret ?_ | refine tret ?_ | refine jnil ?_ | (first | refine jmv rfl rfl rfl ?_ | refine jy (ynil rfl) rfl rfl ?_ | (show Jo _ (.fieldAddr _ _ _); refine jy (yfield rfl fb142_1 rfl) rfl rfl ?_) | (show Jo _ (.load _ _); refine jy (yload (i := 9) rfl rfl rfl one4) rfl rfl ?_) | refine jas_ rfl rfl rfl ?_))
    exact ret1 rfl rfl rfl (fun w' hw' => ⟨rfl, hw.up hw'⟩)
def secA (S : Sec) (l : List Int) : Sec := { S with kn := l.length, kcs := intsV l ++ S.kcs.drop l.length }
structure SecR (S S' : Sec) : Prop where
  gh : S'.gh = S.gh
  g1 : S'.g1 = S.g1
  g2 : S'.g2 = S.g2
  gk : S'.gk = S.gk
  kc : S'.kc = S.kc
  kl : S'.kcs.length = S.kcs.length
  dv : S'.dv = S.dv
theorem SecR.rfl' {S : Sec} : SecR S S := ⟨rfl, rfl, rfl, rfl, rfl, rfl, rfl⟩
theorem SecR.trans {S S' S'' : Sec} (a : SecR S S') (b : SecR S' S'') : SecR S S'' := ⟨b.gh.trans a.gh, b.g1.trans a.g1, b.g2.trans a.g2, b.gk.trans a.gk, b.kc.trans a.kc, b.kl.trans a.kl, b.dv.trans a.dv⟩
structure SecOk (s : T) (x : Lx) (S : Sec) : Prop where
  al : S.all = true → found s S.dv x = none
  a1 : S.s1 = true → idx lsc (s.drop x.pos) = none
  a2 : S.dv = true → S.s2 = true → idxD s x = none
  kc : S.kc = bif S.dv then 2 else 1
  kl : S.kcs.length = S.kc
theorem found_eq (s : T) (dv : Bool) (x : Lx) : found s dv x = mn (idx lsc (s.drop x.pos)) (if dv then idxD s x else none) := by
  unfold found dvOn idxD
  cases dv <;> cases x.chk <;> rfl
theorem mn_none (a : Option Nat) : mn a none = a := by cases a <;> rfl
theorem minS_first (a : Nat) : minS (-1) a = a := by
  show (if (a : Int) < 0 then (-1 : Int) else if (-1 : Int) = -1 then (a : Int) else _) = a
  rw [if_neg (by omega), if_pos rfl]
theorem minL_one (a : Nat) : minL [(a : Int)] = a := minS_first a
theorem minL_two (a b : Nat) : minL [(a : Int), (b : Int)] = (min a b : Nat) := by
  show minS (minS (-1) a) b = _
  rw [minS_first]
  unfold minS
  rw [if_neg (by omega), if_neg (by omega)]
  split <;> omega
theorem skb_calls {X : Cx} {H : Hd} {G : Mem} (hX : Ok X H) {b : Bool} {S : Sec} (hdv : S.dv = b) (hSm : SecMay X H S) {x : Lx} {q : RS} (hp : x.pos ≤ H.s.length) (hs1 : S.s1 = true → idx lsc (H.s.drop x.pos) = none) (st : Value) (W gd : Nat) : ∀ w, Cl X (cM H x st W gd q (secD b H S) G) w →
    Calls Tryz.prog 93 #[.pointer (some ⟨S.g1, 0, none⟩)] w fun e w' => e = .returned (.int .i64 (optI (idx lsc (H.s.drop x.pos)))) ∧ Cl X (cM H x st W gd q (secD b H { S with s1 := (idx lsc (H.s.drop x.pos)).isNone }) G) w' := by
  intro w hw
  have := hskip1_calls hX hSm hp hs1 st W gd w (by rw [secM_eq hdv]; exact hw)
  rw [secM_eq (S := { S with s1 := (idx lsc (H.s.drop x.pos)).isNone }) hdv] at this
  exact this
theorem skd_calls {X : Cx} {H : Hd} {G : Mem} (hX : Ok X H) {S : Sec} (hdv : S.dv = true) (hSm : SecMay X H S) {x : Lx} {q : RS} (hp : x.pos ≤ H.s.length) (hs2 : S.s2 = true → idxD H.s x = none) (st : Value) (W gd : Nat) : ∀ w, Cl X (cM H x st W gd q (secD true H S) G) w →
    Calls Tryz.prog 93 #[.pointer (some ⟨S.g2, 0, none⟩)] w fun e w' => e = .returned (.int .i64 (optI (idxD H.s x))) ∧ Cl X (cM H x st W gd q (secD true H { S with s2 := (idxD H.s x).isNone }) G) w' := by
  intro w hw
  have := hskip2_calls hX hSm hdv hp hs2 st W gd w (by rw [secM_eq hdv]; exact hw)
  rw [secM_eq (S := { S with s2 := (idxD H.s x).isNone }) hdv] at this
  exact this
theorem secA_may {X : Cx} {H : Hd} {S : Sec} (h : SecMay X H S) (l : List Int) (hl : l.length ≤ S.kc) : SecMay X H (secA S l) := ⟨h.s, h.m1, h.m2, h.my, by
  show (intsV l ++ S.kcs.drop l.length).length = S.kc
  rw [List.length_append, List.length_drop, h.kl, show (intsV l).length = l.length from List.length_map _]
  omega, h.kx⟩
theorem secA_r {S : Sec} {l : List Int} (hl : l.length ≤ S.kcs.length) (a b c : Bool) : SecR S { secA S l with all := a, s1 := b, s2 := c } := ⟨rfl, rfl, rfl, rfl, rfl, by
  show (intsV l ++ S.kcs.drop l.length).length = _
  rw [List.length_append, List.length_drop, show (intsV l).length = l.length from List.length_map _]
  omega, rfl⟩
theorem row_skip {w : World} {g n c : Nat} {l : List Int} {cs rest : List Value} (h : BlkAt w g cs (.c 3)) (hc : cs = intsV l ++ rest) (hn : n = l.length) : RowAt (fun _ => False) w (.slice (some ⟨g, 0, none⟩) n c) l.length (intsV l) := by
  subst hn
  subst hc
  refine ⟨_, _, rfl, fun j u hj => ⟨_, rfl, fun h => h, ?_⟩⟩
  have hb : w.heap[g]? = some (.cells (intsV l ++ rest).toArray 3 (0, 0)) := h
  rw [add_lit]
  simp only [World.cell?, hb]
  rw [List.getElem?_toArray, List.getElem?_append_left (List.getElem?_eq_some_iff.1 hj).1, hj]
  simp
theorem one_int {k : IntKind} {i : Int} : ∀ u ∈ [Value.int k i], u.oneCell' = true := fun u hu => by
  rw [List.mem_singleton.1 hu]
  rfl
def boolS (o : Option Nat) : Bool := !o.isNone
def optL : Option Nat → List Int
  | none => []
  | some k => [(k : Int)]
def secF (S : Sec) (o : Option Nat) : Nat → Sec
  | 0 => secA S []
  | _ => { secA S (optL o) with s1 := o.isNone }
def bolF (o : Option Nat) : Nat → Bool
  | 0 => false
  | _ => boolS o
set_option maxHeartbeats 1000000 in
theorem skipF_calls {X : Cx} {H : Hd} {G : Mem} (hX : Ok X H) {S : Sec} (hSm : SecMay X H S) (hdv : S.dv = false) {x : Lx} {q : RS} (hp : x.pos ≤ H.s.length) (hok : SecOk H.s x S) (st : Value) (W gd : Nat) : ∀ w, Cl X (cM H x st W gd q (secM H S) G) w →
    Calls Tryz.prog 75 #[pS H] w fun e w' => ∃ S', e = .returned (.int .i64 (optI (found H.s false x))) ∧ Cl X (cM H x st W gd q (secM H S') G) w' ∧ SecR S S' ∧ SecOk H.s x S' ∧ (S'.all = false → S'.s1 = (idx lsc (H.s.drop x.pos)).isNone) := by
  intro w hw
  rw [secM_eq (S := S) hdv] at hw
  refine enterC 53 hw Tryz.func75 rfl rfl (vs := [pS H]) rfl ?_
  replace hX := hX.sub hw 53
  have hSm0 := hSm
  replace hSm := hSm.sub 53 w
  have hs1 := hok.a1
  have hkc : S.kc = 1 := by rw [hok.kc, hdv]; rfl
  have hkl : S.kcs.length = 1 := hok.kl.trans hkc
  have hf : found H.s false x = idx lsc (H.s.drop x.pos) := by rw [found_eq]; exact mn_none _
  conv => arg 2; arg 2; whnf
  rcases (Bool.eq_false_or_eq_true S.all) with hv | hv
  · have hn := hok.al hv
    rw [hdv] at hn
    rw [hn]
    repeat' (first | refine ctrue (congrArg (fun b => some (Value.bool b)) hv) ?_ | first | refine cseq ?_ | refine rtext ?_ | refine cret ?_ | refine tret ?_ | refine jnil ?_ | (first | refine jmv rfl rfl rfl ?_ | refine jy (ynil rfl) rfl rfl ?_ | (show Jo _ (.fieldAddr _ _ _); refine jy (yfield rfl fb136_1 rfl) rfl rfl ?_) | (show Jo _ (.load _ _); refine jy (yload (i := 5) rfl rfl rfl one4) rfl rfl ?_) | refine jas_ rfl rfl rfl ?_))
    exact ret1 rfl rfl rfl (fun w' hw' => ⟨S, rfl, by rw [secM_eq (S := S) hdv]; exact hw.up hw', SecR.rfl', hok, fun h => by rw [hv] at h; cases h⟩)
  obtain ⟨o, ho⟩ : ∃ o, idx lsc (H.s.drop x.pos) = o := ⟨_, rfl⟩
  rw [hf, ho]
  repeat' (first | refine cfalse (congrArg (fun b => some (Value.bool b)) hv) ?_ | first | refine cseq ?_ | refine rtext ?_ | refine cskip ?_ | refine cblk ?_ | refine jnil ?_ | (first | refine jmv rfl rfl rfl ?_ | refine jy (ynil rfl) rfl rfl ?_ | (show Jo _ (.fieldAddr _ _ _); refine jy (yfield rfl (by first | exact fb136_1 | exact fb136_2 | exact fb136_3) rfl) rfl rfl ?_) | (show Jo _ (.load _ _); refine jy (yload (i := 5) rfl rfl rfl one4) rfl rfl ?_) | refine jas_ rfl rfl rfl ?_ | (show Jo _ (.store _ _ _); refine jstore (i := 5) rfl rfl rfl rfl rfl si4 hSm.s ?_) | (show Jo _ (.call _); ((show Jo _ (.call ⟨.builtin .len, _, _⟩); refine jy (ylenl rfl und133) rfl rfl ?_))) | (show Jo _ (.slice 106 _ none (some _) none); refine jy (yslH (n := 0) rfl rfl und134 sz3 rfl (Nat.zero_le _)) rfl rfl ?_)))
  refine fin (f' := [(0, pS H), (3, .bool (bolF o 0)), (22, .slice (some ⟨S.gh, 0, none⟩) 1 2), (23, .int .i64 (1 : Nat)), (24, .int .i64 (0 : Nat))]) (m' := cM H x st W gd q (secD false H (secF S o 0)) G)
    (cloop (ι := Nat) (fun j => [(0, pS H), (3, .bool (bolF o j)), (22, .slice (some ⟨S.gh, 0, none⟩) 1 2), (23, .int .i64 (1 : Nat)), (24, .int .i64 (j : Nat))]) (fun j => cM H x st W gd q (secD false H (secF S o j)) G) (fun n j => n = 1 - j ∧ j ≤ 1) 1 0 ⟨rfl, Nat.zero_le _⟩ ?_) ⟨rfl, rfl, rfl, rfl, rfl, trivial⟩ rfl
  rintro n j ⟨rfl, hj⟩ K hK
  match j, hj with
  | 0, _ =>
    have hk := hK 0 1 (by omega) ⟨rfl, Nat.le_refl _⟩
    cases o with
    | none =>
      have hz : optI none = -1 := rfl
      repeat' (first | refine cseq ?_ | refine rtext ?_ | refine ctrue rfl ?_ | refine cfalse rfl ?_ | refine cskip ?_ | refine cblk ?_ | refine tnorm ?_ | refine jnil ?_ | (first | refine jmv rfl rfl rfl ?_ | (show Jo _ (.load _ _); refine jy (yload (i := 6) rfl rfl rfl one4) rfl rfl ?_) | refine jas_ rfl rfl rfl ?_ | (show Jo _ (.binOp _ _ _ _ _); first | (show Jo (some 42) (.binOp .add _ _ _ _); (refine jy (yadd (c := ((1 : Nat) : Int)) rfl rfl (by rw [i64_in (by omega) (by omega)]; omega)) rfl rfl ?_)) | (show Jo _ (.binOp .neq _ _ _ _); refine jy (yneq rfl rfl (by (exact decide_eq_false (by omega)))) rfl rfl ?_) | refine jy (ylss rfl rfl (by (exact decide_eq_true (by omega)))) rfl rfl ?_) | (show Jo _ (.call _); ((show Jo _ (.call ⟨.value (.func 93), _, _⟩); refine jcall0 (v := .int .i64 (optI (idx lsc (H.s.drop x.pos)))) (cM H x st W gd q (secD false H { secA S [] with s1 := (idx lsc (H.s.drop x.pos)).isNone }) G) bo120 rfl rfl rfl (skb_calls (S := secA S []) hX hdv (secA_may hSm [] (Nat.zero_le _)) hp hs1 st W gd) ?_; rw [ho]))) | (show Jo _ (.indexAddr 105 _ _); refine jy (yat (p' := ⟨S.gh, 0, none⟩) rfl rfl und133 sz137 (by omega) (by omega) rfl) rfl rfl ?_)))
      exact fin hk ⟨rfl, rfl, rfl, rfl, rfl, trivial⟩ rfl
    | some a1 =>
      have hz : optI (some a1) = a1 := rfl
      repeat' (first | refine cseq ?_ | refine rtext ?_ | refine ctrue rfl ?_ | refine cskip ?_ | refine cblk ?_ | refine tnorm ?_ | refine jnil ?_ | (first | refine jmv rfl rfl rfl ?_ | refine jy (ynil rfl) rfl rfl ?_ | (show Jo _ (.fieldAddr _ _ _); refine jy (yfield rfl fb136_3 rfl) rfl rfl ?_) | (show Jo _ (.load _ _); first | refine jy (yload (i := 5) rfl rfl rfl one4) rfl rfl ?_ | refine jy (yload (i := 6) rfl rfl rfl one4) rfl rfl ?_) | refine jas_ rfl rfl rfl ?_ | (show Jo _ (.binOp _ _ _ _ _); first | (show Jo (some 42) (.binOp .add _ _ _ _); (refine jy (yadd (c := ((1 : Nat) : Int)) rfl rfl (by rw [i64_in (by omega) (by omega)]; omega)) rfl rfl ?_)) | (show Jo _ (.binOp .neq _ _ _ _); refine jy (yneq rfl rfl (by (exact decide_eq_true (by omega)))) rfl rfl ?_) | refine jy (ylss rfl rfl (by (exact decide_eq_true (by omega)))) rfl rfl ?_) | (show Jo _ (.store _ _ _); refine jstore (i := 6) rfl rfl rfl rfl rfl si4 hSm.s ?_) | (show Jo _ (.call _); first | (show Jo _ (.call ⟨.value (.func 93), _, _⟩); refine jcall0 (v := .int .i64 (optI (idx lsc (H.s.drop x.pos)))) (cM H x st W gd q (secD false H { secA S [] with s1 := (idx lsc (H.s.drop x.pos)).isNone }) G) bo120 rfl rfl rfl (skb_calls (S := secA S []) hX hdv (secA_may hSm [] (Nat.zero_le _)) hp hs1 st W gd) ?_; rw [ho]) | (show Jo _ (.call ⟨.builtin .append, _, _⟩); refine jappendIn (i := 9) (size := 1) (n := 0) (k := 1) (cap := S.kc) (c := S.kcs) (news := [.int .i64 (a1 : Nat)]) rfl rfl rfl (src_blk (i := 0) 0 rfl (add_zero _) (fun j u hj => by rw [Nat.zero_add]; exact hj)) rfl one_int hSm.my gr134 (by omega) (by omega) (c' := .int .i64 (a1 : Nat) :: S.kcs.drop 1) rfl rfl ?_)) | (show Jo _ (.indexAddr 105 _ _); refine jy (yat (p' := ⟨S.gh, 0, none⟩) rfl rfl und133 sz137 (by omega) (by omega) rfl) rfl rfl ?_) | (show Jo _ (.buildSlice 106 _ _); refine jlitN (n := 1) (vs := [.int .i64 (a1 : Nat)]) rfl rfl rfl rfl gr134 rfl rfl rfl rfl (fun g hT => ?_))))
      exact finS hk ⟨rfl, rfl, rfl, rfl, rfl, trivial⟩ (List.sublist_cons_self _ _)
  | 1, _ =>
    cases o with
    | none =>
      repeat' (first | refine cseq ?_ | refine rtext ?_ | refine ctrue rfl ?_ | refine cfalse rfl ?_ | refine cret ?_ | refine cexit ?_ | refine tret ?_ | refine jnil ?_ | (first | refine jmv rfl rfl rfl ?_ | refine jy (ynil rfl) rfl rfl ?_ | (show Jo _ (.fieldAddr _ _ _); refine jy (yfield rfl fb136_1 rfl) rfl rfl ?_) | refine jas_ rfl rfl rfl ?_ | (show Jo _ (.binOp _ _ _ _ _); refine jy (ylss rfl rfl (by (exact decide_eq_false (by omega)))) rfl rfl ?_) | (show Jo _ (.store _ _ _); refine jstore (i := 5) rfl rfl rfl rfl rfl si4 hSm.s ?_) | refine jy (ynot rfl rfl) rfl rfl ?_))
      exact ret1 rfl rfl rfl (fun w' hw' => ⟨{ secA S [] with s1 := true, all := true }, rfl, by rw [secM_eq (S := { secA S [] with s1 := true, all := true }) hdv]; exact hw.up hw', ⟨rfl, rfl, rfl, rfl, rfl, rfl, rfl⟩, ⟨fun _ => by rw [show ({ secA S [] with s1 := true, all := true } : Sec).dv = false from hdv, hf, ho], fun _ => ho, (fun h => by rw [show ({ secA S [] with s1 := true, all := true } : Sec).dv = false from hdv] at h; cases h), hok.kc, hok.kl⟩, (fun h => by cases h)⟩)
    | some a1 =>
      obtain ⟨o, hov⟩ : ∃ o, o = some a1 := ⟨_, rfl⟩
      rw [← hov] at ho ⊢
      have hl1 : (intsV (optL o) ++ S.kcs.drop 1).length = S.kcs.length := by
        rw [hov, List.length_append, List.length_drop]
        show 1 + _ = _
        omega
      have hbo : bolF o 1 = true := by rw [hov]; rfl
      repeat' (first | refine cfalse (congrArg (fun b => some (Value.bool (!b))) hbo) ?_ | first | refine cseq ?_ | refine rtext ?_ | refine cfalse rfl ?_ | refine cskip ?_ | refine cret ?_ | refine cexit ?_ | refine jnil ?_ | (first | refine jmv rfl rfl rfl ?_ | refine jy (ynil rfl) rfl rfl ?_ | (show Jo _ (.fieldAddr _ _ _); refine jy (yfield rfl fb136_3 rfl) rfl rfl ?_) | (show Jo _ (.load _ _); refine jy (yload (i := 5) rfl rfl rfl one4) rfl rfl ?_) | refine jas_ rfl rfl rfl ?_ | (show Jo _ (.binOp _ _ _ _ _); refine jy (ylss rfl rfl (by (exact decide_eq_false (by omega)))) rfl rfl ?_) | refine jy (ynot rfl rfl) rfl rfl ?_ | (show Jo _ (.call _); ((show Jo _ (.call ⟨.value (.func 94), _, _⟩); refine jcall0 (v := .int .i64 (minL (optL o))) (cM H x st W gd q (secD false H { secA S (optL o) with s1 := o.isNone }) G) bo121 rfl rfl rfl (quietC fun w hw => minIndex_calls (row_skip (hw.1.at (i := 8) rfl) (by rw [hov]; rfl) (by rw [hov]; rfl)) (by rw [hov]; simp [optL])) ?_)))))
      exact ret1 rfl rfl rfl (fun w' hw' => ⟨{ secA S (optL o) with s1 := o.isNone }, by rw [hov]; exact congrArg (fun z => Ending.returned (Value.int .i64 z)) (minL_one a1), by rw [secM_eq (S := { secA S (optL o) with s1 := o.isNone }) hdv]; exact hw.up hw', secA_r (by rw [hov]; show 1 ≤ _; omega) _ _ _,
        ⟨(fun h => by rw [show ({ secA S (optL o) with s1 := o.isNone } : Sec).all = S.all from rfl, hv] at h; cases h), (fun h => by rw [ho]; exact Option.isNone_iff_eq_none.1 h), (fun h => by rw [show ({ secA S (optL o) with s1 := o.isNone } : Sec).dv = false from hdv] at h; cases h), hok.kc, (secA_r (S := S) (l := optL o) (by rw [hov]; show 1 ≤ _; omega) S.all o.isNone S.s2).kl.trans hok.kl⟩, fun _ => rfl⟩)
def secT (S : Sec) (o1 o2 : Option Nat) : Nat → Sec
  | 0 => secA S []
  | 1 => { secA S (optL o1) with s1 := o1.isNone }
  | _ => { secA S (optL o1 ++ optL o2) with s1 := o1.isNone, s2 := o2.isNone }
def bolT (o1 o2 : Option Nat) : Nat → Bool
  | 0 => false
  | 1 => boolS o1
  | _ => boolS o1 || boolS o2
theorem secT_may {X : Cx} {H : Hd} {S : Sec} (h : SecMay X H S) (o : Option Nat) (hl : 2 ≤ S.kc) : SecMay X H { secA S (optL o) with s1 := o.isNone } :=
  have := secA_may h (optL o) (by cases o <;> show _ ≤ S.kc <;> simp [optL] <;> omega)
  ⟨this.s, this.m1, this.m2, this.my, this.kl, this.kx⟩
theorem skipT_end {H : Hd} {S : Sec} {x : Lx} (hdv : S.dv = true) (hok : SecOk H.s x S) (hv : S.all = false) (o1 o2 : Option Nat) (ho1 : idx lsc (H.s.drop x.pos) = o1) (ho2 : idxD H.s x = o2) (hl : 2 ≤ S.kcs.length) :
    SecR S (secT S o1 o2 2) ∧ SecOk H.s x (secT S o1 o2 2) := by
  have hr := secA_r (S := S) (l := optL o1 ++ optL o2) (by cases o1 <;> cases o2 <;> simp [optL] <;> omega) S.all o1.isNone o2.isNone
  refine ⟨hr, fun h => ?_, fun h => ?_, fun _ h => ?_, hok.kc, hr.kl.trans hok.kl⟩
  · rw [show (secT S o1 o2 2).all = S.all from rfl, hv] at h
    cases h
  · rw [ho1]; exact Option.isNone_iff_eq_none.1 h
  · rw [ho2]; exact Option.isNone_iff_eq_none.1 h
set_option maxHeartbeats 2000000 in
theorem skipT_calls {X : Cx} {H : Hd} {G : Mem} (hX : Ok X H) {S : Sec} (hSm : SecMay X H S) (hdv : S.dv = true) {x : Lx} {q : RS} (hp : x.pos ≤ H.s.length) (hok : SecOk H.s x S) (st : Value) (W gd : Nat) : ∀ w, Cl X (cM H x st W gd q (secM H S) G) w →
    Calls Tryz.prog 75 #[pS H] w fun e w' => ∃ S', e = .returned (.int .i64 (optI (found H.s true x))) ∧ Cl X (cM H x st W gd q (secM H S') G) w' ∧ SecR S S' ∧ SecOk H.s x S' ∧ (S'.all = false → S'.s1 = (idx lsc (H.s.drop x.pos)).isNone ∧ S'.s2 = (idxD H.s x).isNone) := by
  intro w hw
  rw [secM_eq (S := S) hdv] at hw
  refine enterC 53 hw Tryz.func75 rfl rfl (vs := [pS H]) rfl ?_
  replace hX := hX.sub hw 53
  have hSm0 := hSm
  replace hSm := hSm.sub 53 w
  have hs1 := hok.a1
  have hs2 := hok.a2 hdv
  have hkc : S.kc = 2 := by rw [hok.kc, hdv]; rfl
  have hkl : S.kcs.length = 2 := hok.kl.trans hkc
  obtain ⟨u1, u2, hu⟩ : ∃ u1 u2, S.kcs = [u1, u2] := by
    match hS : S.kcs, hkl with
    | [a, b], _ => exact ⟨a, b, rfl⟩
  have hf : found H.s true x = mn (idx lsc (H.s.drop x.pos)) (idxD H.s x) := by rw [found_eq]; rfl
  conv => arg 2; arg 2; whnf
  rcases (Bool.eq_false_or_eq_true S.all) with hv | hv
  · have hn := hok.al hv
    rw [hdv] at hn
    rw [hn]
    repeat' (first | refine ctrue (congrArg (fun b => some (Value.bool b)) hv) ?_ | first | refine cseq ?_ | refine rtext ?_ | refine cret ?_ | refine tret ?_ | refine jnil ?_ | (first | refine jmv rfl rfl rfl ?_ | refine jy (ynil rfl) rfl rfl ?_ | (show Jo _ (.fieldAddr _ _ _); refine jy (yfield rfl fb136_1 rfl) rfl rfl ?_) | (show Jo _ (.load _ _); refine jy (yload (i := 5) rfl rfl rfl one4) rfl rfl ?_) | refine jas_ rfl rfl rfl ?_))
    exact ret1 rfl rfl rfl (fun w' hw' => ⟨S, rfl, by rw [secM_eq (S := S) hdv]; exact hw.up hw', SecR.rfl', hok, fun h => by rw [hv] at h; cases h⟩)
  have hcall1 : ∀ w', Cl (X.sub 53 w) (cM H x st W gd q (secD true H (secA S [])) G) w' → Calls Tryz.prog 93 #[.pointer (some ⟨S.g1, 0, none⟩)] w' fun e w'' => e = .returned (.int .i64 (optI (idx lsc (H.s.drop x.pos)))) ∧ Cl (X.sub 53 w) (cM H x st W gd q (secD true H { secA S [] with s1 := (idx lsc (H.s.drop x.pos)).isNone }) G) w'' :=
    skb_calls (S := secA S []) hX hdv (secA_may hSm [] (Nat.zero_le _)) hp hs1 st W gd
  have hcall2 : ∀ o : Option Nat, ∀ w', Cl (X.sub 53 w) (cM H x st W gd q (secD true H { secA S (optL o) with s1 := o.isNone }) G) w' → Calls Tryz.prog 93 #[.pointer (some ⟨S.g2, 0, none⟩)] w' fun e w'' => e = .returned (.int .i64 (optI (idxD H.s x))) ∧ Cl (X.sub 53 w) (cM H x st W gd q (secD true H { secA S (optL o) with s1 := o.isNone, s2 := (idxD H.s x).isNone }) G) w'' :=
    fun o => skd_calls (S := { secA S (optL o) with s1 := o.isNone }) hX hdv (secT_may hSm o (by omega)) hp hs2 st W gd
  obtain ⟨o1, ho1⟩ : ∃ o, idx lsc (H.s.drop x.pos) = o := ⟨_, rfl⟩
  obtain ⟨o2, ho2⟩ : ∃ o, idxD H.s x = o := ⟨_, rfl⟩
  rw [hf, ho1, ho2]
  rw [ho1] at hcall1
  rw [ho2] at hcall2
  have hend := skipT_end hdv hok hv o1 o2 ho1 ho2 (by omega)
  have hfn : o1 = none → o2 = none → found H.s S.dv x = none := fun h1 h2 => by rw [hdv, hf, ho1, ho2, h1, h2]; rfl
  repeat' (first | refine cfalse (congrArg (fun b => some (Value.bool b)) hv) ?_ | first | refine cseq ?_ | refine rtext ?_ | refine cskip ?_ | refine cblk ?_ | refine jnil ?_ | (first | refine jmv rfl rfl rfl ?_ | refine jy (ynil rfl) rfl rfl ?_ | (show Jo _ (.fieldAddr _ _ _); refine jy (yfield rfl (by first | exact fb136_1 | exact fb136_2 | exact fb136_3) rfl) rfl rfl ?_) | (show Jo _ (.load _ _); refine jy (yload (i := 5) rfl rfl rfl one4) rfl rfl ?_) | refine jas_ rfl rfl rfl ?_ | (show Jo _ (.store _ _ _); refine jstore (i := 5) rfl rfl rfl rfl rfl si4 hSm.s ?_) | (show Jo _ (.call _); ((show Jo _ (.call ⟨.builtin .len, _, _⟩); refine jy (ylenl rfl und133) rfl rfl ?_))) | (show Jo _ (.slice 106 _ none (some _) none); refine jy (yslH (n := 0) rfl rfl und134 sz3 rfl (Nat.zero_le _)) rfl rfl ?_)))
  refine fin (f' := [(0, pS H), (3, .bool (bolT o1 o2 0)), (22, .slice (some ⟨S.gh, 0, none⟩) 2 2), (23, .int .i64 (2 : Nat)), (24, .int .i64 (0 : Nat))]) (m' := cM H x st W gd q (secD true H (secT S o1 o2 0)) G)
    (cloop (ι := Nat) (fun j => [(0, pS H), (3, .bool (bolT o1 o2 j)), (22, .slice (some ⟨S.gh, 0, none⟩) 2 2), (23, .int .i64 (2 : Nat)), (24, .int .i64 (j : Nat))]) (fun j => cM H x st W gd q (secD true H (secT S o1 o2 j)) G) (fun n j => n = 2 - j ∧ j ≤ 2) 2 0 ⟨rfl, Nat.zero_le _⟩ ?_) ⟨rfl, rfl, rfl, rfl, rfl, trivial⟩ rfl
  rintro n j ⟨rfl, hj⟩ K hK
  match j, hj with
  | 0, _ =>
    have hk := hK 1 1 (by omega) ⟨rfl, by omega⟩
    have hiz : (⟨S.gh, 0, none⟩ : Addr).add (((0 : Nat) : Int).toNat * 1) = ⟨S.gh, 0, none⟩ := rfl
    cases o1 with
    | none =>
      have hz : optI none = -1 := rfl
      have hcz := hcall1
      repeat' (first | refine cseq ?_ | refine rtext ?_ | refine ctrue rfl ?_ | refine cfalse rfl ?_ | refine cskip ?_ | refine cblk ?_ | refine tnorm ?_ | refine jnil ?_ | (first | refine jmv rfl rfl rfl ?_ | (show Jo _ (.load _ _); refine jy (yload (i := 6) rfl rfl rfl one4) rfl rfl ?_) | refine jas_ rfl rfl rfl ?_ | (show Jo _ (.binOp _ _ _ _ _); first | (show Jo (some 42) (.binOp .add _ _ _ _); (refine jy (yadd (c := ((1 : Nat) : Int)) rfl rfl (by rw [i64_in (by omega) (by omega)]; omega)) rfl rfl ?_)) | (show Jo _ (.binOp .neq _ _ _ _); refine jy (yneq rfl rfl (by (exact decide_eq_false (by omega)))) rfl rfl ?_) | refine jy (ylss rfl rfl (by (exact decide_eq_true (by omega)))) rfl rfl ?_) | (show Jo _ (.call _); ((show Jo _ (.call ⟨.value (.func 93), _, _⟩); refine jcall0 _ bo120 rfl rfl rfl hcz ?_))) | (show Jo _ (.indexAddr 105 _ _); refine jy (yat rfl rfl und133 sz137 (by omega) (by omega) hiz) rfl rfl ?_)))
      exact fin hk ⟨rfl, rfl, rfl, rfl, rfl, trivial⟩ rfl
    | some az =>
      have hz : optI (some az) = az := rfl
      have hcz := hcall1
      repeat' (first | refine cseq ?_ | refine rtext ?_ | refine ctrue rfl ?_ | refine cskip ?_ | refine cblk ?_ | refine tnorm ?_ | refine jnil ?_ | (first | refine jmv rfl rfl rfl ?_ | refine jy (ynil rfl) rfl rfl ?_ | (show Jo _ (.fieldAddr _ _ _); refine jy (yfield rfl fb136_3 rfl) rfl rfl ?_) | (show Jo _ (.load _ _); first | refine jy (yload (i := 5) rfl rfl rfl one4) rfl rfl ?_ | refine jy (yload (i := 6) rfl rfl rfl one4) rfl rfl ?_) | refine jas_ rfl rfl rfl ?_ | (show Jo _ (.binOp _ _ _ _ _); first | (show Jo (some 42) (.binOp .add _ _ _ _); (refine jy (yadd (c := ((1 : Nat) : Int)) rfl rfl (by rw [i64_in (by omega) (by omega)]; omega)) rfl rfl ?_)) | (show Jo _ (.binOp .neq _ _ _ _); refine jy (yneq rfl rfl (by (exact decide_eq_true (by omega)))) rfl rfl ?_) | refine jy (ylss rfl rfl (by (exact decide_eq_true (by omega)))) rfl rfl ?_) | (show Jo _ (.store _ _ _); refine jstore (i := 6) rfl rfl rfl rfl rfl si4 hSm.s ?_) | (show Jo _ (.call _); first | (show Jo _ (.call ⟨.value (.func 93), _, _⟩); refine jcall0 _ bo120 rfl rfl rfl hcz ?_) | (show Jo _ (.call ⟨.builtin .append, _, _⟩); (refine jappendIn (i := 9) (size := 1) (n := 0) (k := 1) (cap := S.kc) (c := S.kcs) (news := [.int .i64 (az : Nat)]) rfl rfl rfl (src_blk (i := 0) 0 rfl (add_zero _) (fun j u hj => by rw [Nat.zero_add]; exact hj)) rfl one_int hSm.my gr134 (by omega) (by omega) (c' := .int .i64 (az : Nat) :: S.kcs.drop 1) rfl rfl ?_))) | (show Jo _ (.indexAddr 105 _ _); refine jy (yat rfl rfl und133 sz137 (by omega) (by omega) hiz) rfl rfl ?_) | (show Jo _ (.buildSlice 106 _ _); refine jlitN (n := 1) (vs := [.int .i64 (az : Nat)]) rfl rfl rfl rfl gr134 rfl rfl rfl rfl (fun g hT => ?_))))
      exact finS hk ⟨rfl, rfl, rfl, rfl, rfl, trivial⟩ (List.sublist_cons_self _ _)
  | 1, _ =>
    have hk := hK 0 2 (by omega) ⟨rfl, by omega⟩
    have hiz : (⟨S.gh, 0, none⟩ : Addr).add (((1 : Nat) : Int).toNat * 1) = ⟨S.gh, 1, none⟩ := rfl
    have hcz := hcall2 o1
    have hdd : (S.kcs.drop 1).drop 1 = S.kcs.drop 2 := by rw [List.drop_drop]
    cases o1 with
    | none =>
      cases o2 with
      | none =>
        have hz : optI none = -1 := rfl
        repeat' (first | refine cseq ?_ | refine rtext ?_ | refine ctrue rfl ?_ | refine cfalse rfl ?_ | refine cskip ?_ | refine cblk ?_ | refine tnorm ?_ | refine jnil ?_ | (first | refine jmv rfl rfl rfl ?_ | (show Jo _ (.load _ _); refine jy (yload (i := 6) rfl rfl rfl one4) rfl rfl ?_) | refine jas_ rfl rfl rfl ?_ | (show Jo _ (.binOp _ _ _ _ _); first | (show Jo (some 42) (.binOp .add _ _ _ _); (refine jy (yadd (c := ((2 : Nat) : Int)) rfl rfl (by rw [i64_in (by omega) (by omega)]; omega)) rfl rfl ?_)) | (show Jo _ (.binOp .neq _ _ _ _); refine jy (yneq rfl rfl (by (exact decide_eq_false (by omega)))) rfl rfl ?_) | refine jy (ylss rfl rfl (by (exact decide_eq_true (by omega)))) rfl rfl ?_) | (show Jo _ (.call _); ((show Jo _ (.call ⟨.value (.func 93), _, _⟩); refine jcall0 _ bo120 rfl rfl rfl hcz ?_))) | (show Jo _ (.indexAddr 105 _ _); refine jy (yat rfl rfl und133 sz137 (by omega) (by omega) hiz) rfl rfl ?_)))
        exact fin hk ⟨rfl, rfl, rfl, rfl, rfl, trivial⟩ rfl
      | some az =>
        have hz : optI (some az) = az := rfl
        repeat' (first | refine cseq ?_ | refine rtext ?_ | refine ctrue rfl ?_ | refine cskip ?_ | refine cblk ?_ | refine tnorm ?_ | refine jnil ?_ | (first | refine jmv rfl rfl rfl ?_ | refine jy (ynil rfl) rfl rfl ?_ | (show Jo _ (.fieldAddr _ _ _); refine jy (yfield rfl fb136_3 rfl) rfl rfl ?_) | (show Jo _ (.load _ _); first | refine jy (yload (i := 5) rfl rfl rfl one4) rfl rfl ?_ | refine jy (yload (i := 6) rfl rfl rfl one4) rfl rfl ?_) | refine jas_ rfl rfl rfl ?_ | (show Jo _ (.binOp _ _ _ _ _); first | (show Jo (some 42) (.binOp .add _ _ _ _); (refine jy (yadd (c := ((2 : Nat) : Int)) rfl rfl (by rw [i64_in (by omega) (by omega)]; omega)) rfl rfl ?_)) | (show Jo _ (.binOp .neq _ _ _ _); refine jy (yneq rfl rfl (by (exact decide_eq_true (by omega)))) rfl rfl ?_) | refine jy (ylss rfl rfl (by (exact decide_eq_true (by omega)))) rfl rfl ?_) | (show Jo _ (.store _ _ _); refine jstore (i := 6) rfl rfl rfl rfl rfl si4 hSm.s ?_) | (show Jo _ (.call _); first | (show Jo _ (.call ⟨.value (.func 93), _, _⟩); refine jcall0 _ bo120 rfl rfl rfl hcz ?_) | (show Jo _ (.call ⟨.builtin .append, _, _⟩); (refine jappendIn (i := 9) (size := 1) (n := 0) (k := 1) (cap := S.kc) (c := S.kcs) (news := [.int .i64 (az : Nat)]) rfl rfl rfl (src_blk (i := 0) 0 rfl (add_zero _) (fun j u hj => by rw [Nat.zero_add]; exact hj)) rfl one_int hSm.my gr134 (by omega) (by omega) (c' := .int .i64 (az : Nat) :: S.kcs.drop 1) rfl rfl ?_))) | (show Jo _ (.indexAddr 105 _ _); refine jy (yat rfl rfl und133 sz137 (by omega) (by omega) hiz) rfl rfl ?_) | (show Jo _ (.buildSlice 106 _ _); refine jlitN (n := 1) (vs := [.int .i64 (az : Nat)]) rfl rfl rfl rfl gr134 rfl rfl rfl rfl (fun g hT => ?_))))
        exact finS hk ⟨rfl, rfl, rfl, rfl, rfl, trivial⟩ (List.sublist_cons_self _ _)
    | some a1 =>
      cases o2 with
      | none =>
        have hz : optI none = -1 := rfl
        repeat' (first | refine cseq ?_ | refine rtext ?_ | refine ctrue rfl ?_ | refine cfalse rfl ?_ | refine cskip ?_ | refine cblk ?_ | refine tnorm ?_ | refine jnil ?_ | (first | refine jmv rfl rfl rfl ?_ | (show Jo _ (.load _ _); refine jy (yload (i := 6) rfl rfl rfl one4) rfl rfl ?_) | refine jas_ rfl rfl rfl ?_ | (show Jo _ (.binOp _ _ _ _ _); first | (show Jo (some 42) (.binOp .add _ _ _ _); (refine jy (yadd (c := ((2 : Nat) : Int)) rfl rfl (by rw [i64_in (by omega) (by omega)]; omega)) rfl rfl ?_)) | (show Jo _ (.binOp .neq _ _ _ _); refine jy (yneq rfl rfl (by (exact decide_eq_false (by omega)))) rfl rfl ?_) | refine jy (ylss rfl rfl (by (exact decide_eq_true (by omega)))) rfl rfl ?_) | (show Jo _ (.call _); ((show Jo _ (.call ⟨.value (.func 93), _, _⟩); refine jcall0 _ bo120 rfl rfl rfl hcz ?_))) | (show Jo _ (.indexAddr 105 _ _); refine jy (yat rfl rfl und133 sz137 (by omega) (by omega) hiz) rfl rfl ?_)))
        exact fin hk ⟨rfl, rfl, rfl, rfl, rfl, trivial⟩ rfl
      | some az =>
        have hz : optI (some az) = az := rfl
        repeat' (first | refine cseq ?_ | refine rtext ?_ | refine ctrue rfl ?_ | refine cskip ?_ | refine cblk ?_ | refine tnorm ?_ | refine jnil ?_ | (first | refine jmv rfl rfl rfl ?_ | refine jy (ynil rfl) rfl rfl ?_ | (show Jo _ (.fieldAddr _ _ _); refine jy (yfield rfl fb136_3 rfl) rfl rfl ?_) | (show Jo _ (.load _ _); first | refine jy (yload (i := 5) rfl rfl rfl one4) rfl rfl ?_ | refine jy (yload (i := 6) rfl rfl rfl one4) rfl rfl ?_) | refine jas_ rfl rfl rfl ?_ | (show Jo _ (.binOp _ _ _ _ _); first | (show Jo (some 42) (.binOp .add _ _ _ _); (refine jy (yadd (c := ((2 : Nat) : Int)) rfl rfl (by rw [i64_in (by omega) (by omega)]; omega)) rfl rfl ?_)) | (show Jo _ (.binOp .neq _ _ _ _); refine jy (yneq rfl rfl (by (exact decide_eq_true (by omega)))) rfl rfl ?_) | refine jy (ylss rfl rfl (by (exact decide_eq_true (by omega)))) rfl rfl ?_) | (show Jo _ (.store _ _ _); refine jstore (i := 6) rfl rfl rfl rfl rfl si4 hSm.s ?_) | (show Jo _ (.call _); first | (show Jo _ (.call ⟨.value (.func 93), _, _⟩); refine jcall0 _ bo120 rfl rfl rfl hcz ?_) | (show Jo _ (.call ⟨.builtin .append, _, _⟩); (refine jappendIn (i := 9) (size := 1) (n := 1) (k := 1) (cap := S.kc) (c := .int .i64 (a1 : Nat) :: S.kcs.drop 1) (news := [.int .i64 (az : Nat)]) rfl rfl rfl (src_blk (i := 0) 0 rfl (add_zero _) (fun j u hj => by rw [Nat.zero_add]; exact hj)) rfl one_int hSm.my gr134 (by omega) (by rw [List.length_cons, List.length_drop]; omega) (c' := .int .i64 (a1 : Nat) :: .int .i64 (az : Nat) :: S.kcs.drop 2) (by exact congrArg (fun l => Value.int .i64 (a1 : Nat) :: .int .i64 (az : Nat) :: l) hdd) rfl ?_))) | (show Jo _ (.indexAddr 105 _ _); refine jy (yat rfl rfl und133 sz137 (by omega) (by omega) hiz) rfl rfl ?_) | (show Jo _ (.buildSlice 106 _ _); refine jlitN (n := 1) (vs := [.int .i64 (az : Nat)]) rfl rfl rfl rfl gr134 rfl rfl rfl rfl (fun g hT => ?_))))
        exact finS hk ⟨rfl, rfl, rfl, rfl, rfl, trivial⟩ (List.sublist_cons_self _ _)
  | 2, _ =>
    rcases (Bool.eq_false_or_eq_true (bolT o1 o2 2)).symm with hb | hb
    · have o1n : o1 = none := by
        rcases o1 with _ | a1
        · rfl
        · cases hb
      have o2n : o2 = none := by
        rcases o2 with _ | a1
        · rfl
        · rcases o1 with _ | a2 <;> cases hb
      subst o1n o2n
      repeat' (first | refine cseq ?_ | refine rtext ?_ | refine ctrue rfl ?_ | refine cfalse rfl ?_ | refine cret ?_ | refine cexit ?_ | refine tret ?_ | refine jnil ?_ | (first | refine jmv rfl rfl rfl ?_ | refine jy (ynil rfl) rfl rfl ?_ | (show Jo _ (.fieldAddr _ _ _); refine jy (yfield rfl fb136_1 rfl) rfl rfl ?_) | refine jas_ rfl rfl rfl ?_ | (show Jo _ (.binOp _ _ _ _ _); refine jy (ylss rfl rfl (by (exact decide_eq_false (by omega)))) rfl rfl ?_) | (show Jo _ (.store _ _ _); refine jstore (i := 5) rfl rfl rfl rfl rfl si4 hSm.s ?_) | refine jy (ynot rfl rfl) rfl rfl ?_))
      exact ret1 rfl rfl rfl (fun w' hw' => ⟨{ secT S none none 2 with all := true }, rfl, by rw [secM_eq (S := { secT S none none 2 with all := true }) hdv]; exact hw.up hw', ⟨rfl, rfl, rfl, rfl, rfl, rfl, rfl⟩, ⟨fun _ => hfn rfl rfl, fun _ => ho1, fun _ _ => ho2, hok.kc, hok.kl⟩, (fun h => by cases h)⟩)
    · have hll : (optL o1 ++ optL o2).length ≤ 2 := by cases o1 <;> cases o2 <;> simp [optL]
      have hmin : ∀ w', Cl (X.sub 53 w) (cM H x st W gd q (secD true H (secT S o1 o2 2)) G) w' → Calls Tryz.prog 94 #[.slice (some ⟨S.gk, 0, none⟩) (optL o1 ++ optL o2).length S.kc] w' fun e w'' => e = .returned (.int .i64 (minL (optL o1 ++ optL o2))) ∧ Cl (X.sub 53 w) (cM H x st W gd q (secD true H (secT S o1 o2 2)) G) w'' :=
        quietC fun w hw => minIndex_calls (row_skip (hw.1.at (i := 8) rfl) rfl rfl) (by omega)
      have hmv : minL (optL o1 ++ optL o2) = optI (mn o1 o2) := by
        rcases o1 with _ | a1
        · rcases o2 with _ | a2
          · cases hb
          · exact minL_one a2
        · rcases o2 with _ | a2
          · exact minL_one a1
          · exact minL_two a1 a2
      rw [← hmv]
      repeat' (first | refine cfalse (congrArg (fun b => some (Value.bool (!b))) hb) ?_ | first | refine cseq ?_ | refine rtext ?_ | refine cfalse rfl ?_ | refine cskip ?_ | refine cret ?_ | refine cexit ?_ | refine jnil ?_ | (first | refine jmv rfl rfl rfl ?_ | refine jy (ynil rfl) rfl rfl ?_ | (show Jo _ (.fieldAddr _ _ _); refine jy (yfield rfl fb136_3 rfl) rfl rfl ?_) | (show Jo _ (.load _ _); refine jy (yload (i := 5) rfl rfl rfl one4) rfl rfl ?_) | refine jas_ rfl rfl rfl ?_ | (show Jo _ (.binOp _ _ _ _ _); refine jy (ylss rfl rfl (by (exact decide_eq_false (by omega)))) rfl rfl ?_) | refine jy (ynot rfl rfl) rfl rfl ?_ | (show Jo _ (.call _); ((show Jo _ (.call ⟨.value (.func 94), _, _⟩); refine jcall0 _ bo121 rfl rfl rfl hmin ?_)))))
      exact ret1 rfl rfl rfl (fun w' hw' => ⟨secT S o1 o2 2, rfl, by rw [secM_eq (S := secT S o1 o2 2) hdv]; exact hw.up hw', hend.1, hend.2, fun _ => ⟨rfl, rfl⟩⟩)
theorem skip_calls {X : Cx} {H : Hd} {G : Mem} (hX : Ok X H) {S : Sec} (hSm : SecMay X H S) {x : Lx} {q : RS} (hp : x.pos ≤ H.s.length) (hok : SecOk H.s x S) (st : Value) (W gd : Nat) : ∀ w, Cl X (cM H x st W gd q (secM H S) G) w →
    Calls Tryz.prog 75 #[pS H] w fun e w' => ∃ S', e = .returned (.int .i64 (optI (found H.s S.dv x))) ∧ Cl X (cM H x st W gd q (secM H S') G) w' ∧ SecR S S' ∧ SecOk H.s x S' ∧ (S'.all = false → S'.s1 = (idx lsc (H.s.drop x.pos)).isNone ∧ (S.dv = true → S'.s2 = (idxD H.s x).isNone)) := by
  intro w hw
  rcases (Bool.eq_false_or_eq_true S.dv).symm with hdv | hdv
  · rw [hdv]
    exact (skipF_calls hX hSm hdv hp hok st W gd w hw).mono fun e w' ⟨S', h1, h2, h3, h4, h5⟩ => ⟨S', h1, h2, h3, h4, fun h => ⟨h5 h, fun h => by cases h⟩⟩
  · rw [hdv]
    exact (skipT_calls hX hSm hdv hp hok st W gd w hw).mono fun e w' ⟨S', h1, h2, h3, h4, h5⟩ => ⟨S', h1, h2, h3, h4, fun h => ⟨(h5 h).1, fun _ => (h5 h).2⟩⟩
section
variable {X : Cx} {P : Program} {f : Fr} {m : Mem} {ty : TypeId} {pos : String} {af : Array Edge} {gd : Option (Nat × Bool)} {d : Option Tmp}
def fnB (P : Program) (t : TypeId) : Bool := match P.underlying t with
  | some (.func _ _ _) => true
  | _ => false
def nilF : Value → Option Bool
  | .nilFunc => some true
  | .func _ _ _ => some false
  | _ => none
theorem run_eqF {t : TypeId} {a : Value} {b : Bool} (ht : fnB P t = true) (ha : nilF a = some b) (d : Nat) (w : World) : (Op.equalIn (d + 1) t a .nilFunc).run P w = .ok b w := by
  unfold fnB at ht
  split at ht
  · rename_i hu
    unfold nilF at ha
    split at ha
    · cases ha; simp [Op.equalIn, run_underlying hu]
    · cases ha; simp [Op.equalIn, run_underlying hu]
    · cases ha
  · cases ht
theorem yfe {x y : Operand} {a : Value} {b : Bool} {t t' : TypeId} (hx : evF f x = some a) (hy : evF f y = some .nilFunc) (ht : fnB P t = true) (ha : nilF a = some b) :
    Yl X P f m ⟨d, .binOp .eql t x y t', ty, pos, af, gd⟩ (.bool b) := .of fun w1 w s => by
  have h1 := run_eqF (P := P) ht ha 9999 w
  cases a <;> (cases ha) <;> simp [execOp, s.agr.eval hx, s.agr.eval hy, binOp, eqGuard, Op.equal, Op.maxDepth, h1]
theorem yfn {x y : Operand} {a : Value} {b : Bool} {t t' : TypeId} (hx : evF f x = some a) (hy : evF f y = some .nilFunc) (ht : fnB P t = true) (ha : nilF a = some b) :
    Yl X P f m ⟨d, .binOp .neq t x y t', ty, pos, af, gd⟩ (.bool (!b)) := .of fun w1 w s => by
  have h1 := run_eqF (P := P) ht ha 9999 w
  cases a <;> (cases ha) <;> simp [execOp, s.agr.eval hx, s.agr.eval hy, binOp, eqGuard, Op.equal, Op.maxDepth, h1]
end
theorem fn104 : fnB Tryz.prog 78 = true := by kernel_rfl
def lexR (E : Env) (s : T) (dv : Bool) (x : Lx) : Res := match lex1 E s x with
  | some r => r
  | none => match (if dvOn dv x then lex2 s x else none) with
    | some y => (y, some .main)
    | none => (mv 1 x, some .main)
theorem lexR_err {E : Env} {s : T} {dv : Bool} {x : Lx} (h : (lexR E s dv x).2 = none) : lexR E s dv x = (errI x, none) ∧ piece E s dv x = ({ errI x with pos := s.length }, some .done) := by
  unfold lexR at h ⊢
  unfold lex1 at h ⊢
  unfold piece
  dsimp only
  by_cases hp : (lmd.isPrefixOf (s.drop x.pos) || lno.isPrefixOf (s.drop x.pos)) = true
  · rw [if_pos hp] at h ⊢
    rw [if_pos hp]
    by_cases hi : (x.inl && !inlOk E ((s.drop x.pos).drop 3) x.name) = true
    · rw [if_pos hi, if_pos hi]
      exact ⟨rfl, rfl⟩
    · rw [if_neg hi] at h; cases h
  · rw [if_neg hp] at h
    dsimp only at h
    split at h <;> cases h
theorem lexR_ok {E : Env} {s : T} {dv : Bool} {x : Lx} (h : (lexR E s dv x).2 ≠ none) : piece E s dv x = lexR E s dv x := by
  unfold lexR at h ⊢
  unfold lex1 at h ⊢
  unfold piece
  dsimp only
  by_cases hp : (lmd.isPrefixOf (s.drop x.pos) || lno.isPrefixOf (s.drop x.pos)) = true
  · rw [if_pos hp] at h ⊢
    rw [if_pos hp]
    by_cases hi : (x.inl && !inlOk E ((s.drop x.pos).drop 3) x.name) = true
    · rw [if_pos hi] at h; exact absurd rfl h
    · rw [if_neg hi, if_neg hi]
  · rw [if_neg hp] at h ⊢
    rw [if_neg hp]
    dsimp only
    unfold lex2
    by_cases hd : dvOn dv x = true
    · rw [if_pos hd]
      by_cases hq : (divr x.org).isPrefixOf (s.drop x.pos) = true
      · rw [if_pos hq, if_pos (by rw [hd, hq]; rfl)]
      · rw [if_neg hq, if_neg (by rw [Bool.and_eq_true]; exact fun h => hq h.2)]
    · rw [if_neg hd, if_neg (by rw [Bool.and_eq_true]; exact fun h => hd h.1)]
end Go.Proofs.YtkehggbmpdacpacGreatDoor.Pg
