/- The page laws: texts that all of them use, joined (part 10): Lex3, Lex4, Txt0, Lex5, Lex7, Pg28. -/
import Derived.Laws.Entries
import Derived.Test.YtkehggbmpdacpabGreatDoorKp1
import Derived.Test.YtkehggbmpdacpabGreatDoorKp9
set_option maxRecDepth 100000
set_option linter.unusedVariables false
set_option linter.unusedSimpArgs false
set_option linter.unusedSectionVars false
namespace Go.Proofs.YtkehggbmpdacpabGreatDoor.Lex0
open Go.Proofs.YtkehggbmpdacpabGreatDoor.Dec0
inductive Steps (E : Env) (s : T) (dv : Bool) : St → Lx → St → Lx → Prop
  | refl {st x} : Steps E s dv st x st x
  | go {st x st' y st'' z} : step E s dv st x = (y, some st') → Steps E s dv st' y st'' z → Steps E s dv st x st'' z
theorem Steps.one {E : Env} {s : T} {dv : Bool} {st st' : St} {x y : Lx} (h : step E s dv st x = (y, some st')) : Steps E s dv st x st' y := .go h .refl
theorem Steps.trans {E : Env} {s : T} {dv : Bool} {a b c : St} {x y z : Lx} (h : Steps E s dv a x b y) (k : Steps E s dv b y c z) : Steps E s dv a x c z := by
  induction h with
  | refl => exact k
  | go h1 _ ih => exact .go h1 (ih k)
theorem Steps.runs {E : Env} {s : T} {dv : Bool} {a b : St} {x y : Lx} {l : List Itm} (h : Steps E s dv a x b y) (k : Runs E s dv b y l) : Runs E s dv a x l := by
  induction h with
  | refl => exact k
  | go h1 _ ih => exact .go h1 (ih k)
def shI (k : Nat) (i : Itm) : Itm := if i.segs = [] then { i with low := i.low + k, high := i.high + k } else { i with segs := i.segs.map fun p => (p.1 + k, p.2 + k) }
def shX (k : Nat) (I : List Itm) (o : Bool) (x : Lx) : Lx := { x with pos := x.pos + k, start := x.start + k, org := o || x.org, items := I ++ x.items.map (shI k) }
section
variable {pre s : T} {k : Nat} {I : List Itm} {o : Bool} (hk : pre.length = k)
include hk
theorem sh_drop (p : Nat) : (pre ++ s).drop (p + k) = s.drop p := by rw [← hk, Nat.add_comm, List.drop_append, List.drop_of_length_le (by omega), List.nil_append]; congr 1; omega
theorem sh_cut (a b : Nat) : cut (pre ++ s) (a + k) (b + k) = cut s a b := by unfold cut; rw [sh_drop hk]; congr 1; omega
theorem sh_len : (pre ++ s).length = s.length + k := by rw [List.length_append]; omega
omit hk in
theorem shI_mk (t a b : Nat) : shI k (mk t a b) = mk t (a + k) (b + k) := rfl
theorem sh_txts (a b : Nat) (h : a ≤ b) (hb : b ≤ s.length) : txts (pre ++ s) (a + k) (b + k) = (txts s a b).map (shI k) := by
  have hl : ((cut s a b).reverse.takeWhile isBl).length ≤ b - a := by
    have h1 := (List.takeWhile_sublist (l := (cut s a b).reverse) isBl).length_le
    rw [List.length_reverse] at h1
    have : (cut s a b).length ≤ b - a := by unfold cut; rw [List.length_take]; omega
    omega
  unfold txts
  rw [sh_cut hk]
  dsimp only
  split
  · rfl
  · split
    · simp only [List.map_cons, List.map_nil, shI_mk]
      rw [show b + k - ((cut s a b).reverse.takeWhile isBl).length = b - ((cut s a b).reverse.takeWhile isBl).length + k by omega]
    · rfl
omit hk in
theorem sh_mv (n : Nat) (x : Lx) : mv n (shX k I o x) = shX k I o (mv n x) := by unfold mv shX; simp only [Nat.add_right_comm]
omit hk in
theorem sh_ign (x : Lx) : ign (shX k I o x) = shX k I o (ign x) := rfl
omit hk in
theorem sh_emit (t : Nat) (x : Lx) : emit t (shX k I o x) = shX k I o (emit t x) := by unfold emit shX; simp only [List.map_append, List.append_assoc, List.map_cons, List.map_nil, shI_mk]
omit hk in
theorem sh_emitS (t : Nat) (x : Lx) : emitS t (shX k I o x) = shX k I o (emitS t x) := by unfold emitS shX; simp only [List.map_append, List.append_assoc, List.map_cons, List.map_nil]; rfl
omit hk in
theorem sh_errI (x : Lx) : errI (shX k I o x) = shX k I o (errI x) := by unfold errI shX; simp only [List.map_append, List.append_assoc, List.map_cons, List.map_nil]; rfl
theorem sh_emitT (x : Lx) (h : x.start ≤ x.pos) (hb : x.pos ≤ s.length) : emitT (pre ++ s) (shX k I o x) = shX k I o (emitT s x) := by
  unfold emitT
  show ({ shX k I o x with items := (shX k I o x).items ++ txts (pre ++ s) (x.start + k) (x.pos + k), start := x.pos + k } : Lx) = _
  rw [sh_txts hk _ _ h hb]
  unfold shX
  simp only [List.map_append, List.append_assoc]
def shR (k : Nat) (I : List Itm) (o : Bool) (r : Res) : Res := (shX k I o r.1, r.2)
omit hk in
theorem sh_fail (x : Lx) : fail (shX k I o x) = shR k I o (fail x) := by unfold fail; rw [sh_errI]; rfl
theorem sh_done {x : Lx} (h : x.start ≤ x.pos) (hb : x.pos ≤ s.length) : done (pre ++ s) (shX k I o x) = shR k I o (done s x) := by
  unfold done
  by_cases hl : x.start < x.pos
  · rw [if_pos hl, if_pos (show (shX k I o x).start < (shX k I o x).pos from Nat.add_lt_add_right hl k), sh_emitT hk _ h hb, sh_emit]; rfl
  · rw [if_neg hl, if_neg (show ¬ (shX k I o x).start < (shX k I o x).pos from fun h => hl (Nat.lt_of_add_lt_add_right h)), sh_emit]; rfl
theorem sh_left {x : Lx} : left (pre ++ s) (shX k I o x) = shR k I o (left s x) := by
  unfold left
  rw [show (shX k I o x).pos + 3 = x.pos + 3 + k from Nat.add_right_comm _ _ _, sh_drop hk, sh_mv]
  split
  · rfl
  · show ({ emit _ _ with step := 0, par := 0 }, _) = _; rw [sh_emit]; rfl
theorem sh_comment {x : Lx} (h : x.start ≤ x.pos) (hb : x.pos ≤ s.length) : comment (pre ++ s) (shX k I o x) = shR k I o (comment s x) := by
  unfold comment
  rw [show (shX k I o x).pos = x.pos + k from rfl, sh_drop hk, show (shX k I o x).md = x.md from rfl]
  split
  · exact sh_fail x
  · rename_i q hq
    have hq := (b_idx hq).1
    rw [List.length_append, rd3, List.length_drop] at hq
    simp only [List.length_cons, List.length_nil] at hq
    split
    · exact sh_fail x
    · rename_i hq1
      rw [sh_emitT hk _ h hb, sh_mv, sh_ign, sh_mv, sh_emitT hk _ (by dsimp only [mv, ign, emitT]; omega) (by dsimp only [mv, ign, emitT]; omega), sh_mv, sh_ign, sh_mv, sh_emitT hk _ (by dsimp only [mv, ign, emitT]; omega) (by dsimp only [mv, ign, emitT]; omega)]
      rfl
omit hk in
theorem sh_right {x : Lx} : right (shX k I o x) = shR k I o (right x) := by
  unfold right
  show (emit _ { mv 3 (shX k I o x) with closing := 0 }, _) = _
  rw [sh_mv, show ({ shX k I o (mv 3 x) with closing := 0 } : Lx) = shX k I o { mv 3 x with closing := 0 } from rfl, sh_emit]
  rfl
theorem sh_pval {x : Lx} : pval (pre ++ s) (shX k I o x) = shR k I o (pval s x) := by
  unfold pval
  rw [show (shX k I o x).pos = x.pos + k from rfl, sh_drop hk, sh_mv, sh_emit]
  rfl
theorem sh_endsc {x : Lx} : endsc (pre ++ s) (shX k I o x) = shR k I o (endsc s x) := by
  unfold endsc
  rw [show (shX k I o x).pos = x.pos + k from rfl, sh_drop hk, show (shX k I o x).md = x.md from rfl]
  dsimp only
  split
  · rfl
  · split
    · exact sh_fail (k := k) (I := I) (o := o) { x with inl := false }
    · split
      · show (ign (mv 1 (shX k I o { x with inl := false })), some St.endsc) = _
        rw [sh_mv, sh_ign]; rfl
      · show fail (mv _ (shX k I o { x with inl := false })) = _
        rw [sh_mv]; exact sh_fail _
omit hk in
theorem sh_segs : ∀ (l : T) (a b : Nat), segsL l (a + k) (b + k) = (segsL l a b).map fun p => (p.1 + k, p.2 + k) := by
  intro l
  induction l with
  | nil => intro a b; unfold segsL; by_cases h : a < b; rw [if_pos h, if_pos (by omega)]; rfl; rw [if_neg h, if_neg (by omega)]; rfl
  | cons c r ih =>
    intro a b
    unfold segsL
    have e : b + k + 1 = b + 1 + k := Nat.add_right_comm _ _ _
    by_cases hc : c = 92
    · rw [if_pos hc, if_pos hc]
      by_cases h : a < b
      · rw [if_pos h, if_pos (show a + k < b + k by omega), e, ih]; rfl
      · rw [if_neg h, if_neg (show ¬ a + k < b + k by omega), e, ih]
    · rw [if_neg hc, if_neg hc, e, ih]
omit hk in
theorem sh_stAt (x : Lx) (so : Option Nat) : stAt (shX k I o x) so = stAt x so + k := by
  cases so with
  | none => rfl
  | some n => exact Nat.add_right_comm _ _ _
theorem sh_emitE (t : Nat) (x : Lx) : emitE t (pre ++ s) (shX k I o x) = shX k I o (emitE t s x) := by
  unfold emitE
  rw [show (shX k I o x).start = x.start + k from rfl, show (shX k I o x).pos = x.pos + k from rfl, sh_cut hk, sh_segs]
  by_cases h : segsL (cut s x.start x.pos) x.start x.start = []
  · rw [h]; rfl
  · rw [if_neg h, if_neg (by simpa using h)]
    unfold shX
    simp only [List.map_append, List.append_assoc, List.map_cons, List.map_nil]
    rw [show shI k ⟨t, 0, 0, segsL (cut s x.start x.pos) x.start x.start, false, false⟩ = ⟨t, 0, 0, (segsL (cut s x.start x.pos) x.start x.start).map fun p => (p.1 + k, p.2 + k), false, false⟩ from by unfold shI; rw [if_neg h]]
theorem sh_qEnd (x : Lx) : qEnd (pre ++ s) (shX k I o x) = shX k I o (qEnd s x) := by
  unfold qEnd
  rw [show (shX k I o x).pos = x.pos + k from rfl, sh_drop hk]
  split
  · rw [sh_mv]; rfl
  · rw [sh_mv]
  · rw [sh_mv]; rfl
  · rfl
theorem sh_quoted {x : Lx} (alw : Bool) (ty : Nat) : quoted (pre ++ s) alw ty (shX k I o x) = shR k I o (quoted s alw ty x) := by
  unfold quoted
  rw [show (shX k I o x).pos = x.pos + k from rfl, sh_drop hk]
  dsimp only
  generalize qLoop alw (s.drop x.pos) 0 none false false false = q
  rw [show ({ shX k I o x with pos := x.pos + k + q.2.1, start := stAt (shX k I o x) q.2.2.1 } : Lx) = shX k I o { x with pos := x.pos + q.2.1, start := stAt x q.2.2.1 } from by rw [sh_stAt, Nat.add_right_comm]; rfl]
  split
  · exact sh_fail _
  · split
    · rw [sh_emitE hk, sh_qEnd hk]; rfl
    · rw [sh_emitS, sh_qEnd hk]; rfl
theorem sh_raw {x : Lx} (ty : Nat) : raw (pre ++ s) ty (shX k I o x) = shR k I o (raw s ty x) := by
  unfold raw
  rw [show (shX k I o x).pos = x.pos + k from rfl, sh_drop hk]
  dsimp only
  generalize rLoop (s.drop x.pos) 0 none false = q
  rw [show ({ shX k I o x with pos := x.pos + k + q.2.1, start := stAt (shX k I o x) q.2.2 } : Lx) = shX k I o { x with pos := x.pos + q.2.1, start := stAt x q.2.2 } from by rw [sh_stAt, Nat.add_right_comm]; rfl]
  split
  · exact sh_fail _
  · rw [sh_emitS, sh_mv, sh_ign]; rfl
theorem sh_param {E : Env} {x : Lx} (esc : Bool) : param E (pre ++ s) esc (shX k I o x) = shR k I o (param E s esc x) := by
  unfold param
  rw [show (shX k I o x).pos = x.pos + k from rfl, sh_drop hk, show (shX k I o x).par = x.par from rfl]
  dsimp only
  rw [sh_mv, sh_mv]
  split
  · split
    · exact sh_fail _
    · split
      · exact sh_quoted hk (x := { x with par := 1 }) _ _
      · exact sh_raw hk (x := { x with par := 1 }) _
  · split
    · exact sh_fail _
    · split
      · rw [show ∀ (y : Lx) (p : Nat), ({ shX k I o y with par := p } : Lx) = shX k I o { y with par := p } from fun _ _ => rfl, sh_emit]; rfl
      · split
        · exact sh_fail _
        · split
          · exact sh_fail _
          · rw [sh_emit]; rfl
theorem sh_ident {E : Env} {x : Lx} : ident E (pre ++ s) (shX k I o x) = shR k I o (ident E s x) := by
  unfold ident
  rw [show (shX k I o x).pos = x.pos + k from rfl, sh_drop hk, show (shX k I o x).inl = x.inl from rfl]
  dsimp only
  generalize idLoop E (s.drop x.pos) 0 x.inl = q
  have e1 : x.pos + k + q.2.1 = x.pos + q.2.1 + k := Nat.add_right_comm _ _ _
  have e2 : cut (pre ++ s) (shX k I o x).start (x.pos + k + q.2.1) = cut s x.start (x.pos + q.2.1) := by rw [e1]; exact sh_cut hk _ _
  rw [e2, e1, show (shX k I o x).op = x.op from rfl, show (shX k I o x).closing = x.closing from rfl]
  split
  · exact sh_fail (k := k) (I := I) (o := o) { x with pos := x.pos + q.2.1, inl := q.2.2 }
  · split
    · exact sh_fail (k := k) (I := I) (o := o) { x with pos := x.pos + q.2.1, inl := q.2.2 }
    · show (emit _ (shX k I o { x with pos := x.pos + q.2.1, inl := q.2.2, closing := 0, name := _, step := x.step + 1, op := _ }), _) = _
      rw [sh_emit]
      rfl
theorem sh_inside {E : Env} {x : Lx} : inside E (pre ++ s) (shX k I o x) = shR k I o (inside E s x) := by
  unfold inside
  rw [show (shX k I o x).pos = x.pos + k from rfl, sh_drop hk, show (shX k I o x).md = x.md from rfl, show (shX k I o x).name = x.name from rfl, show (shX k I o x).step = x.step from rfl]
  dsimp only
  split
  · rfl
  · split
    · exact sh_fail x
    · split
      · rw [sh_mv]; rfl
      · split
        · rw [sh_mv, sh_ign, show (shX k I o (ign (mv (1 + spN ((s.drop x.pos).drop 1)) x))).pos = (ign (mv (1 + spN ((s.drop x.pos).drop 1)) x)).pos + k from rfl, sh_drop hk]
          split
          · exact sh_quoted hk _ _
          · split
            · exact sh_raw hk _
            · rfl
        · split
          · split
            · rw [sh_mv]; exact sh_fail _
            · rw [sh_mv, show ∀ (y : Lx) (c : Nat) (b : Bool) (n : Nat), ({ shX k I o y with closing := c, inl := b, step := n } : Lx) = shX k I o { y with closing := c, inl := b, step := n } from fun _ _ _ _ => rfl, sh_emit]; rfl
          · split
            · rw [sh_mv, sh_ign, show (shX k I o (ign (mv 1 x))).pos = (ign (mv 1 x)).pos + k from rfl, sh_drop hk]
              split
              · exact sh_param hk _
              · rfl
            · split
              · exact sh_param hk _
              · split
                · rfl
                · rw [sh_mv]; exact sh_fail _
theorem sh_found {dv : Bool} (ho : dv = true → o = false) (x : Lx) : found (pre ++ s) dv (shX k I o x) = found s dv x := by
  unfold found
  rw [show (shX k I o x).pos = x.pos + k from rfl, sh_drop hk]
  cases dv
  · rfl
  · rw [show (shX k I o x).org = x.org from by show (o || x.org) = _; rw [ho rfl]; rfl]; rfl
theorem sh_piece {E : Env} {dv : Bool} (ho : dv = true → o = false) (x : Lx) : piece E (pre ++ s) dv (shX k I o x) = shR k I o (piece E s dv x) := by
  unfold piece
  rw [show (shX k I o x).pos = x.pos + k from rfl, sh_drop hk, sh_mv, sh_errI, sh_len hk, show (shX k I o x).inl = x.inl from rfl, show (shX k I o x).name = x.name from rfl]
  dsimp only
  split
  · split
    · rfl
    · rfl
  · have hd : dvOn dv (shX k I o x) = dvOn dv x := rfl
    rw [hd]
    cases dv
    · rfl
    · obtain rfl := ho rfl
      rw [show (shX k I false x).org = x.org from rfl]
      split
      · have e : x.pos + k + (divr x.org).length + spN ((s.drop x.pos).drop (divr x.org).length) = x.pos + (divr x.org).length + spN ((s.drop x.pos).drop (divr x.org).length) + k := by omega
        rw [e]
        show (emit 2 (shX k I false { x with chk := true, pos := x.pos + (divr x.org).length + spN ((s.drop x.pos).drop (divr x.org).length) }), _) = _
        rw [sh_emit]
        rfl
      · rfl
theorem sh_main {E : Env} {dv : Bool} (ho : dv = true → o = false) {x : Lx} (h : x.start ≤ x.pos) (hb : x.pos ≤ s.length) : main E (pre ++ s) dv (shX k I o x) = shR k I o (main E s dv x) := by
  unfold main
  rw [sh_found hk ho, sh_len hk, show (shX k I o x).pos = x.pos + k from rfl, show (shX k I o x).start = x.start + k from rfl]
  by_cases hl : s.length ≤ x.pos
  · rw [if_pos hl, if_pos (by omega)]; rfl
  · rw [if_neg hl, if_neg (by omega)]
    cases hf : found s dv x with
    | none => rfl
    | some q =>
      have hq := b_found hb h hf
      dsimp only
      rw [sh_mv]
      by_cases h2 : x.start < x.pos + q
      · rw [if_pos h2, if_pos (by omega), sh_emitT hk _ (by dsimp only [mv]; omega) (by dsimp only [mv]; omega)]
        exact sh_piece hk ho _
      · rw [if_neg h2, if_neg (by omega)]
        exact sh_piece hk ho _
def mainSt : St → Bool
  | .intro => false
  | .json => false
  | .org => false
  | _ => true
theorem sh_step {E : Env} {dv : Bool} (ho : dv = true → o = false) {st : St} (hst : mainSt st = true) {x : Lx} (h : x.start ≤ x.pos) (hb : x.pos ≤ s.length) : step E (pre ++ s) dv st (shX k I o x) = shR k I o (step E s dv st x) := by
  cases st with
  | main => exact sh_main hk ho h hb
  | done => exact sh_done hk h hb
  | left => exact sh_left hk
  | comment => exact sh_comment hk h hb
  | right => exact sh_right
  | inside => exact sh_inside hk
  | pval => exact sh_pval hk
  | ident => exact sh_ident hk
  | endsc => exact sh_endsc hk
  | intro => cases hst
  | json => cases hst
  | org => cases hst
end
theorem main_st {E : Env} {s : T} {dv : Bool} {st st' : St} {x y : Lx} (hst : mainSt st = true) (h : step E s dv st x = (y, some st')) : mainSt st' = true := by
  have q1 : ∀ a t x, (quoted s a t x).2 = some st' → mainSt st' = true := fun a t x h => by
    unfold quoted at h; dsimp only at h; split at h
    · cases h
    · cases h; rfl
  have r1 : ∀ t x, (raw s t x).2 = some st' → mainSt st' = true := fun t x h => by
    unfold raw at h; dsimp only at h; split at h
    · cases h
    · cases h; rfl
  have p1 : ∀ e x, (param E s e x).2 = some st' → mainSt st' = true := fun e x h => by
    unfold param at h; dsimp only at h
    split at h
    · split at h
      · cases h
      · split at h
        · exact q1 _ _ _ h
        · exact r1 _ _ h
    · split at h
      · cases h
      · split at h
        · cases h; rfl
        · split at h
          · cases h
          · split at h
            · cases h
            · cases h; rfl
  have pc : ∀ x, (piece E s dv x).2 = some st' → mainSt st' = true := fun x h => by
    unfold piece at h; dsimp only at h
    split at h
    · split at h <;> (cases h; rfl)
    · split at h <;> (cases h; rfl)
  have h : (step E s dv st x).2 = some st' := by rw [h]
  cases st with
  | main =>
    have h : (main E s dv x).2 = some st' := h
    unfold main at h
    split at h
    · cases h; rfl
    · split at h
      · cases h; rfl
      · exact pc _ h
  | done => cases h
  | left => have h : (left s x).2 = some st' := h; unfold left at h; split at h <;> (cases h; rfl)
  | comment => have h : (comment s x).2 = some st' := h; unfold comment at h; split at h; cases h; split at h; cases h; cases h; rfl
  | right => cases h; rfl
  | inside =>
    have h : (inside E s x).2 = some st' := h
    unfold inside at h; dsimp only at h
    split at h
    · cases h; rfl
    · split at h
      · cases h
      · split at h
        · cases h; rfl
        · split at h
          · split at h
            · exact q1 _ _ _ h
            · split at h
              · exact r1 _ _ h
              · cases h; rfl
          · split at h
            · split at h
              · cases h
              · cases h; rfl
            · split at h
              · split at h
                · exact p1 _ _ h
                · cases h; rfl
              · split at h
                · exact p1 _ _ h
                · split at h
                  · cases h; rfl
                  · cases h
  | pval => cases h; rfl
  | ident =>
    have h : (ident E s x).2 = some st' := h
    unfold ident at h; dsimp only at h
    split at h
    · cases h
    · split at h
      · cases h
      · cases h
        split <;> rfl
  | endsc =>
    have h : (endsc s x).2 = some st' := h
    unfold endsc at h; dsimp only at h
    split at h
    · cases h; rfl
    · split at h
      · cases h
      · split at h
        · cases h; rfl
        · cases h
  | intro => cases hst
  | json => cases hst
  | org => cases hst
theorem shR_mk (k : Nat) (I : List Itm) (o : Bool) (x : Lx) (u : Option St) : shR k I o (x, u) = (shX k I o x, u) := rfl
theorem sh_runs {pre s : T} {k : Nat} {I : List Itm} {o : Bool} (hk : pre.length = k) {E : Env} (hal : E.al (-1) = false) {dv : Bool} (ho : dv = true → o = false) {st : St} {x : Lx} {l : List Itm} (h : Runs E s dv st x l) : mainSt st = true → Good E s st x → Runs E (pre ++ s) dv st (shX k I o x) (I ++ l.map (shI k)) := by
  induction h with
  | stop h1 =>
    intro hst hg
    have := sh_step (I := I) hk ho (E := E) hst hg.sp hg.p
    rw [h1, shR_mk] at this
    exact .stop this
  | go h1 _ ih =>
    intro hst hg
    have := sh_step (I := I) hk ho (E := E) hst hg.sp hg.p
    rw [h1, shR_mk] at this
    exact .go this (ih (main_st hst h1) (step_good hal hg h1).1)
def isW (c : UInt8) : Bool := decide (48 ≤ c.toNat) && decide (c.toNat ≤ 57) || decide (65 ≤ c.toNat) && decide (c.toNat ≤ 90) || decide (97 ≤ c.toNat) && decide (c.toNat ≤ 122) || c.toNat == 95
structure EA (E : Env) : Prop where
  al : ∀ c : UInt8, c.toNat < 128 → E.al (c.toNat : Int) = isW c
  neg : E.al (-1) = false
theorem isW_lt {c : UInt8} (h : isW c = true) : c.toNat < 128 := by
  unfold isW at h
  simp only [Bool.or_eq_true, Bool.and_eq_true, decide_eq_true_eq, beq_iff_eq] at h
  omega
theorem isSp_lt {c : UInt8} (h : isSp c.toNat = true) : c.toNat < 128 := by
  unfold isSp at h
  simp only [Bool.or_eq_true, beq_iff_eq] at h
  omega
theorem rd_no {md : Bool} {c : UInt8} {r : T} (h1 : c.toNat ≠ 37) (h2 : c.toNat ≠ 62) : (rd md).isPrefixOf (c :: r) = false := by
  have h1' : ¬ (37 : UInt8) = c := fun h => h1 (by rw [← h]; rfl)
  have h2' : ¬ (62 : UInt8) = c := fun h => h2 (by rw [← h]; rfl)
  cases md
  · show ((62 : UInt8) == c && _) = false
    rw [show ((62 : UInt8) == c) = false from by simpa using h2']; rfl
  · show ((37 : UInt8) == c && _) = false
    rw [show ((37 : UInt8) == c) = false from by simpa using h1']; rfl
theorem pre_app (p r : T) : p.isPrefixOf (p ++ r) = true := List.isPrefixOf_iff_prefix.2 (List.prefix_append _ _)
theorem drop_more {s : T} {p : Nat} {u r : T} (h : s.drop p = u ++ r) : s.drop (p + u.length) = r := by rw [← List.drop_drop, h, List.drop_left]
theorem drop_c {s : T} {p : Nat} {c : UInt8} {r : T} (h : s.drop p = c :: r) : s.drop (p + 1) = r := by rw [← List.drop_drop, h]; rfl
theorem cut_at {s : T} {p : Nat} {u r : T} (h : s.drop p = u ++ r) : cut s p (p + u.length) = u := by unfold cut; rw [h, show p + u.length - p = u.length by omega, List.take_left]
theorem id_run {E : Env} : ∀ (u : T) {r : T} (n : Nat) (inl : Bool), (∀ c ∈ u, c.toNat < 128 ∧ idR E (c.toNat : Int) = true) → idLoop E (u ++ r) n inl = idLoop E r (n + u.length) inl := by
  intro u
  induction u with
  | nil => intro r n inl _; rfl
  | cons c u ih =>
    intro r n inl h
    obtain ⟨h1, h2⟩ := h c (List.mem_cons_self ..)
    show idLoop E (c :: (u ++ r)) n inl = _
    rw [idLoop, dif_pos (by simp), rn_ascii h1, if_pos h2, wd_ascii h1]
    show idLoop E (u ++ r) (n + 1) inl = _
    rw [ih (n + 1) inl (fun c hc => h c (List.mem_cons_of_mem _ hc)), List.length_cons, Nat.add_assoc, Nat.add_comm 1]
theorem id_stop {E : Env} {c : UInt8} {r : T} (n : Nat) (inl : Bool) (h1 : c.toNat < 128) (h2 : idR E (c.toNat : Int) = false) (h3 : c.toNat ≠ 46) : idLoop E (c :: r) n inl = (false, n, inl) := by
  rw [idLoop, dif_pos (by simp), rn_ascii h1, if_neg (by rw [h2]; simp), if_neg (by omega)]
def escT (v : T) : T := v.flatMap fun c => if c = 34 then [92, 34] else [c]
theorem escT_plain {v : T} (h : ∀ c ∈ v, c ≠ 34) : escT v = v := by
  induction v with
  | nil => rfl
  | cons c v ih => show (if c = 34 then [92, 34] else [c]) ++ escT v = _; rw [if_neg (h c (List.mem_cons_self ..)), ih (fun c hc => h c (List.mem_cons_of_mem _ hc))]; rfl
section
variable {E : Env} {s : T} {dv : Bool} {x : Lx}
theorem in_right {r : T} (hd : s.drop x.pos = rd x.md ++ r) : step E s dv .inside x = (x, some .right) := by
  show inside E s x = _
  unfold inside
  dsimp only
  rw [hd, if_pos (pre_app _ _)]
theorem right_main : step E s dv .right x = ({ x with closing := 0, items := x.items ++ [mk (if x.md then 11 else 9) x.start (x.pos + 3)], pos := x.pos + 3, start := x.pos + 3 }, some .main) := rfl
theorem in_sp1 {c : UInt8} {r : T} (hd : s.drop x.pos = c :: r) (hc : isSp c.toNat = true) : step E s dv .inside x = (ign (mv 1 x), some .inside) := by
  have hl := isSp_lt hc
  have hn : c.toNat ≠ 37 ∧ c.toNat ≠ 62 := by
    unfold isSp at hc
    simp only [Bool.or_eq_true, beq_iff_eq] at hc
    omega
  show inside E s x = _
  unfold inside
  dsimp only
  rw [hd, if_neg (by rw [rd_no hn.1 hn.2]; simp), if_neg (by simp), rn_ascii hl, if_pos (show isSp (Int.toNat (c.toNat : Int)) = true from hc)]
theorem in_sp : ∀ (u : T) {x : Lx} {r : T}, x.start = x.pos → s.drop x.pos = u ++ r → (∀ c ∈ u, isSp c.toNat = true) → Steps E s dv .inside x .inside { x with pos := x.pos + u.length, start := x.pos + u.length } := by
  intro u
  induction u with
  | nil =>
    intro x r hs _ _
    have : ({ x with pos := x.pos + ([] : T).length, start := x.pos + ([] : T).length } : Lx) = x := by
      cases x
      dsimp only at hs
      subst hs
      rfl
    rw [this]
    exact .refl
  | cons c u ih =>
    intro x r hs hd hu
    refine .go (in_sp1 hd (hu c (List.mem_cons_self ..))) ?_
    have h1 := ih (x := ign (mv 1 x)) (r := r) rfl (drop_c hd) (fun c hc => hu c (List.mem_cons_of_mem _ hc))
    have : ({ ign (mv 1 x) with pos := (ign (mv 1 x)).pos + u.length, start := (ign (mv 1 x)).pos + u.length } : Lx) = { x with pos := x.pos + (c :: u).length, start := x.pos + (c :: u).length } := by
      show ({ x with pos := x.pos + 1 + u.length, start := x.pos + 1 + u.length } : Lx) = _
      rw [show x.pos + 1 + u.length = x.pos + (c :: u).length from by rw [List.length_cons]; omega]
    rw [this] at h1
    exact h1
theorem in_other {c : UInt8} {r : T} (hd : s.drop x.pos = c :: r) (hl : c.toNat < 128) (h1 : c.toNat ≠ 37) (h2 : c.toNat ≠ 62) (h3 : isSp c.toNat = false) (h4 : c.toNat ≠ 61) (h5 : c.toNat ≠ 47) (h6 : c.toNat ≠ 92) :
    step E s dv .inside x = if 0 < x.step ∧ (alh E (c.toNat : Int) = true ∨ (c.toNat : Int) = 34 ∨ (c.toNat : Int) = 96) then param E s false x else if E.al (c.toNat : Int) then (x, some .ident) else fail (mv 1 x) := by
  show inside E s x = _
  unfold inside
  dsimp only
  rw [hd, if_neg (by rw [rd_no h1 h2]; simp), if_neg (by simp), rn_ascii hl, if_neg (by rw [show Int.toNat (c.toNat : Int) = c.toNat from rfl, h3]; simp), if_neg (by omega), if_neg (by omega), if_neg (by omega), wd_ascii hl]
theorem isW_no {c : UInt8} (h : isW c = true) : c.toNat ≠ 37 ∧ c.toNat ≠ 62 ∧ isSp c.toNat = false ∧ c.toNat ≠ 61 ∧ c.toNat ≠ 47 ∧ c.toNat ≠ 92 ∧ c.toNat ≠ 34 ∧ c.toNat ≠ 96 := by
  unfold isW at h
  simp only [Bool.or_eq_true, Bool.and_eq_true, decide_eq_true_eq, beq_iff_eq] at h
  refine ⟨by omega, by omega, ?_, by omega, by omega, by omega, by omega, by omega⟩
  unfold isSp
  simp only [Bool.or_eq_false_iff, beq_eq_false_iff_ne]
  omega
def isN (c : UInt8) : Bool := isW c || c.toNat == 45 || c.toNat == 47
theorem isN_id (hE : EA E) {c : UInt8} (h : isN c = true) : c.toNat < 128 ∧ idR E (c.toNat : Int) = true := by
  unfold isN at h
  simp only [Bool.or_eq_true, beq_iff_eq] at h
  unfold idR alh
  rcases h with (h | h) | h
  · have hl := isW_lt h
    rw [hE.al c hl, h]
    exact ⟨hl, rfl⟩
  · rw [h]; exact ⟨by decide, by simp⟩
  · rw [h]; exact ⟨by decide, by simp⟩
theorem sp_id (hE : EA E) : idR E (((32 : UInt8).toNat : Nat) : Int) = false := by
  unfold idR alh
  rw [hE.al 32 (by decide)]
  rfl
def dotInl : T := [46, 105, 110, 108, 105, 110, 101]
theorem id_inl (hE : EA E) {u r : T} (hu : ∀ c ∈ u, isN c = true) : idLoop E (u ++ (dotInl ++ 32 :: r)) 0 false = (false, u.length + 7, true) := by
  rw [id_run u 0 false (fun c hc => isN_id hE (hu c hc))]
  show idLoop E (46 :: ([105, 110, 108, 105, 110, 101] ++ 32 :: r)) _ _ = _
  have h46 : idR E (((46 : UInt8).toNat : Nat) : Int) = false := by
    unfold idR alh
    rw [hE.al 46 (by decide)]
    rfl
  rw [idLoop, dif_pos (by simp), rn_ascii (by decide), if_neg (by rw [h46]; simp), if_pos (by decide), wd_ascii (by decide)]
  show (if inlT.isPrefixOf (([105, 110, 108, 105, 110, 101] : T) ++ 32 :: r) = true then idLoop E (([105, 110, 108, 105, 110, 101] : T) ++ 32 :: r) (0 + u.length + 1) true else _) = _
  rw [if_pos (show inlT.isPrefixOf (([105, 110, 108, 105, 110, 101] : T) ++ 32 :: r) = true from pre_app inlT r), id_run _ _ _ (fun c hc => isN_id hE (by revert c; decide)), id_stop _ _ (by decide) (sp_id hE) (by decide)]
  simp
theorem in_ident (hE : EA E) {c : UInt8} {r : T} (hd : s.drop x.pos = c :: r) (hc : isW c = true) (hst : x.step = 0) : step E s dv .inside x = (x, some .ident) := by
  obtain ⟨h1, h2, h3, h4, h5, h6, _⟩ := isW_no hc
  have hl := isW_lt hc
  rw [in_other hd hl h1 h2 h3 h4 h5 h6, if_neg (fun h => by rw [hst] at h; exact absurd h.1 (by decide)), hE.al c hl, if_pos hc]
def named_ (x : Lx) (inl : Bool) (w : T) : Lx := { x with pos := x.pos + w.length, start := x.pos + w.length, inl := inl, closing := 0, name := ba w, step := x.step + 1, items := x.items ++ [mk (if inl then 14 else 13) x.start (x.pos + w.length)], op := oset (ba w) true (if 0 < x.closing then oset (ba w) false x.op else x.op) }
theorem ident_step {w r : T} {inl : Bool} (hs : x.start = x.pos) (hd : s.drop x.pos = w ++ r) (hq : idLoop E (s.drop x.pos) 0 x.inl = (false, w.length, inl)) (ho : x.closing = 0 ∨ oget (ba w) x.op = true) : step E s dv .ident x = (named_ x inl w, some (if 0 < x.closing then .endsc else .inside)) := by
  show ident E s x = _
  unfold ident
  rw [hq]
  dsimp only
  rw [if_neg (by simp), hs, cut_at hd, if_neg (fun h => by rcases ho with h0 | h0; omega; rw [h0] at h; cases h.2)]
  unfold named_ emit
  rw [hs]
theorem in_nameI (hE : EA E) {w r : T} (hs : x.start = x.pos) (hi : x.inl = false) (hst : x.step = 0) (hd : s.drop x.pos = (w ++ dotInl) ++ 32 :: r) (hw : w ≠ []) (h0 : ∀ c, w.head? = some c → isW c = true) (hn : ∀ c ∈ w, isN c = true) (ho : x.closing = 0 ∨ oget (ba (w ++ dotInl)) x.op = true) :
    Steps E s dv .inside x (if 0 < x.closing then .endsc else .inside) (named_ x true (w ++ dotInl)) := by
  cases w with
  | nil => exact absurd rfl hw
  | cons c w => exact .go (in_ident hE hd (h0 c rfl) hst) (.one (ident_step hs hd (by rw [hd, hi, List.append_assoc, id_inl hE hn, List.length_append]; rfl) ho))
def isP (c : UInt8) : Bool := isW c || c.toNat == 45 || c.toNat == 46
end
end Go.Proofs.YtkehggbmpdacpabGreatDoor.Lex0
namespace Go.Proofs.YtkehggbmpdacpabGreatDoor.Txt0
open Go Go.Lib Go.Proofs.YtkehggbmpdacpabGreatDoor.Dec0
def hasT (x : T) : T → Bool
  | [] => x.isEmpty
  | c :: r => x.isPrefixOf (c :: r) || hasT x r
theorem hasT_short (x : T) : ∀ l : T, l.length < x.length → hasT x l = false
  | [], h => by cases x with
    | nil => simp at h
    | cons a b => rfl
  | c :: r, h => by
    rw [hasT, hasT_short x r (by simp at h; omega), Bool.or_false]
    cases hp : x.isPrefixOf (c :: r) with
    | false => rfl
    | true =>
      have := (List.isPrefixOf_iff_prefix.1 hp).length_le
      simp at h this
      omega
theorem hasT_drop (x l : T) (hx : x ≠ []) : hasT x l = (x.isPrefixOf l || hasT x (l.drop 1)) := by
  cases l with
  | nil =>
    cases x with
    | nil => exact absurd rfl hx
    | cons a b => rfl
  | cons c r => rfl
theorem pre_take {x l : T} : x.isPrefixOf l = decide (l.take x.length = x) := by
  rw [Bool.eq_iff_iff, decide_eq_true_eq, List.isPrefixOf_iff_prefix]
  exact ⟨fun h => (List.prefix_iff_eq_take.1 h).symm, fun h => h ▸ List.take_prefix _ _⟩
theorem data_inj {a b : ByteArray} : a = b ↔ a.data.toList = b.data.toList := by
  constructor
  · rintro rfl; rfl
  · intro h
    cases a; cases b
    simp at h
    rw [h]
theorem ext_list (s : ByteArray) (a b : Nat) : (s.extract a b).data.toList = (s.data.toList.drop a).take (b - a) := by
  simp [List.drop_take]
theorem size_list (s : ByteArray) : s.data.toList.length = s.size := by rw [Array.length_toList]; rfl
theorem piece_eq (s x : ByteArray) (j k : Nat) (hk : k = j + x.size) : decide (s.extract j k = x) = x.data.toList.isPrefixOf (s.data.toList.drop j) := by
  subst hk
  rw [pre_take]
  congr 1
  rw [data_inj, ext_list, size_list, show j + x.size - j = x.size by omega]
theorem app_list (a b : ByteArray) : (a ++ b).data.toList = a.data.toList ++ b.data.toList := by simp
def isLet (c : UInt8) : Bool := decide (65 ≤ c.toNat) && decide (c.toNat ≤ 90) || decide (97 ≤ c.toNat) && decide (c.toNat ≤ 122)
theorem or_let : ∀ k : Fin 256, (decide (bits .or .u8 ((k.val : Nat) : Int) 32 < 97) || decide (122 < bits .or .u8 ((k.val : Nat) : Int) 32)) = !(decide (65 ≤ k.val) && decide (k.val ≤ 90) || decide (97 ≤ k.val) && decide (k.val ≤ 122)) := by decide +kernel
def isAsc (c : UInt8) : Bool := decide (c.toNat ≤ 126) && (decide (32 ≤ c.toNat) || c.toNat == 10 || c.toNat == 9)
end Go.Proofs.YtkehggbmpdacpabGreatDoor.Txt0
namespace Go.Proofs.YtkehggbmpdacpabGreatDoor.Lex0
open Go.Proofs.YtkehggbmpdacpabGreatDoor.Dec0 Go.Proofs.YtkehggbmpdacpabGreatDoor.Txt0
theorem idx_cons (p : T) (c : UInt8) (r : T) : idx p (c :: r) = if p.isPrefixOf (c :: r) then some 0 else (idx p r).map (· + 1) := by rw [idx]
theorem idx_skip {k : UInt8} {p : T} : ∀ (u : T) {v : T}, (∀ c ∈ u, c ≠ k) → idx (k :: p) (u ++ v) = (idx (k :: p) v).map (· + u.length) := by
  intro u
  induction u with
  | nil => intro v _; cases h : idx (k :: p) v <;> simp [h]
  | cons c u ih =>
    intro v h
    have hc := h c (List.mem_cons_self ..)
    show idx (k :: p) (c :: (u ++ v)) = _
    rw [idx_cons, if_neg, ih (fun c hc => h c (List.mem_cons_of_mem _ hc))]
    · cases idx (k :: p) v <;> simp [Nat.add_assoc]
    · show ¬ ((k == c && _) = true)
      rw [show (k == c) = false from by simpa using fun e => hc e.symm]
      simp
theorem idx_here {p r : T} (hp : p ≠ []) : idx p (p ++ r) = some 0 := by
  cases p with
  | nil => exact absurd rfl hp
  | cons a p => show idx (a :: p) (a :: (p ++ r)) = _; rw [idx_cons, if_pos (show (a :: p).isPrefixOf (a :: (p ++ r)) = true from pre_app (a :: p) r)]
theorem idx_nil {p : T} (hp : p ≠ []) : idx p [] = none := by rw [idx, if_neg hp]
theorem idx_drop {p : T} (hp : p ≠ []) : ∀ (l : T) (n : Nat), idx p l = none → idx p (l.drop n) = none := by
  intro l
  induction l with
  | nil => intro n h; rw [List.drop_nil]; exact h
  | cons c r ih =>
    intro n h
    cases n with
    | zero => exact h
    | succ n =>
      rw [List.drop_succ_cons]
      rw [idx_cons] at h
      split at h
      · cases h
      · exact ih n (by cases hr : idx p r with
          | none => rfl
          | some k => rw [hr] at h; cases h)
def divr1 (org : Bool) : T := (divr org).tail
theorem divr_cons (org : Bool) : divr org = (if org then 35 else 60) :: divr1 org := by cases org <;> rfl
theorem divr_ne (org : Bool) : divr org ≠ [] := by cases org <;> simp [divr]
theorem lsc_ne : lsc ≠ [] := by simp [lsc]
section
variable {E : Env} {s : T} {dv : Bool} {x : Lx}
theorem found_left {u r : T} (hd : s.drop x.pos = u ++ 123 :: 123 :: r) (h1 : ∀ c ∈ u, c ≠ 123) (h2 : dvOn dv x = true → ∀ c ∈ u, c ≠ if x.org then 35 else 60) : found s dv x = some u.length := by
  have ha : idx lsc (s.drop x.pos) = some u.length := by
    rw [hd, show lsc = 123 :: [123] from rfl, idx_skip u h1]
    rw [show (123 :: 123 :: r : T) = (123 :: [123]) ++ r from rfl, idx_here (by simp)]
    simp
  unfold found
  rw [ha]
  cases ho : dvOn dv x with
  | false => rfl
  | true =>
    rw [if_pos rfl, hd, divr_cons, idx_skip u (h2 ho), idx_cons, if_neg (by cases x.org <;> simp [List.isPrefixOf])]
    cases idx _ (123 :: r) with
    | none => rfl
    | some b => show some (min u.length (b + 1 + u.length)) = _; rw [Nat.min_eq_left (by omega)]
theorem found_none {u : T} (hd : s.drop x.pos = u) (h1 : idx lsc u = none) (h2 : dvOn dv x = true → idx (divr x.org) u = none) : found s dv x = none := by
  unfold found
  rw [hd, h1]
  cases ho : dvOn dv x with
  | false => rfl
  | true => rw [if_pos rfl, h2 ho]; rfl
def opn (s : T) (a b : Nat) : List Itm := if a < b then txts s a b else []
theorem main_found {q : Nat} (hf : found s dv x = some q) : main E s dv x = piece E s dv { x with pos := x.pos + q, start := if x.start < x.pos + q then x.pos + q else x.start, items := x.items ++ opn s x.start (x.pos + q) } := by
  have hb : ¬ s.length ≤ x.pos := fun h => by
    have : s.drop x.pos = [] := List.drop_eq_nil_of_le h
    unfold found at hf
    rw [this, idx_nil lsc_ne] at hf
    split at hf
    · rw [idx_nil (divr_ne _)] at hf; cases hf
    · cases hf
  unfold main
  rw [if_neg hb, hf]
  dsimp only
  unfold opn
  by_cases h : x.start < x.pos + q
  · rw [if_pos h, if_pos h, if_pos h]; rfl
  · rw [if_neg h, if_neg h, if_neg h]; unfold mv; rw [List.append_nil]
theorem go_left {q : Nat} {md : Bool} {r : T} (hf : found s dv x = some q) (hs : x.start ≤ x.pos) (hd : s.drop (x.pos + q) = (if md then lmd else lno) ++ r) (hi : x.inl = true → inlOk E r x.name = true) :
    step E s dv .main x = ({ x with pos := x.pos + q, start := x.pos + q, items := x.items ++ opn s x.start (x.pos + q), md := md }, some .left) := by
  have hst : (if x.start < x.pos + q then x.pos + q else x.start) = x.pos + q := by split; rfl; omega
  show main E s dv x = _
  rw [main_found hf, hst]
  unfold piece
  dsimp only
  have hm : lmd.isPrefixOf (s.drop (x.pos + q)) = md := by
    rw [hd]
    cases md <;> rfl
  have hor : (lmd.isPrefixOf (s.drop (x.pos + q)) || lno.isPrefixOf (s.drop (x.pos + q))) = true := by
    rw [hd]
    cases md <;> rfl
  have h3 : (s.drop (x.pos + q)).drop 3 = r := by
    rw [hd]
    cases md <;> rfl
  rw [if_pos hor, hm, h3]
  cases hi2 : x.inl with
  | false => rfl
  | true => rw [hi hi2]; rfl
theorem left_in {r : T} (hd : s.drop (x.pos + 3) = r) (hc : [47, 42].isPrefixOf r = false) : step E s dv .left x = ({ x with pos := x.pos + 3, start := x.pos + 3, step := 0, par := 0, items := x.items ++ [mk (if x.md then 10 else 8) x.start (x.pos + 3)] }, some .inside) := by
  show left s x = _
  unfold left
  rw [hd, hc, if_neg (by simp)]
  rfl
theorem drop3 {md : Bool} {p : Nat} {r : T} (hd : s.drop p = (if md then lmd else lno) ++ r) : s.drop (p + 3) = r := by
  have h := drop_more hd
  rw [lf3] at h
  exact h
theorem go_in {q : Nat} {md : Bool} {r : T} (hf : found s dv x = some q) (hs : x.start ≤ x.pos) (hd : s.drop (x.pos + q) = (if md then lmd else lno) ++ r) (hi : x.inl = true → inlOk E r x.name = true) (hc : [47, 42].isPrefixOf r = false) :
    Steps E s dv .main x .inside { x with pos := x.pos + q + 3, start := x.pos + q + 3, md := md, step := 0, par := 0, items := x.items ++ opn s x.start (x.pos + q) ++ [mk (if md then 10 else 8) (x.pos + q) (x.pos + q + 3)] } :=
  .go (go_left hf hs hd hi) (.one (left_in (drop3 hd) hc))
theorem go_end (hs : x.start ≤ x.pos) (hp : x.pos ≤ s.length) (hf : s.length ≤ x.pos ∨ found s dv x = none) : Runs E s dv .main x (x.items ++ opn s x.start s.length ++ [mk 1 s.length s.length]) := by
  have key : ∀ y : Lx, y.pos = s.length → y.start = x.start → y.items = x.items → Runs E s dv .done y (x.items ++ opn s x.start s.length ++ [mk 1 s.length s.length]) := fun y h1 h2 h3 => by
    have : step E s dv .done y = ((done s y).1, none) := rfl
    have h4 := Runs.stop (E := E) (dv := dv) this
    have h5 : (done s y).1.items = x.items ++ opn s x.start s.length ++ [mk 1 s.length s.length] := by
      unfold done opn
      rw [h1, h2]
      by_cases h : x.start < s.length
      · rw [if_pos h, if_pos h]
        show (y.items ++ txts s y.start y.pos) ++ [mk 1 y.pos y.pos] = _
        rw [h1, h2, h3]
      · rw [if_neg h, if_neg h]
        show y.items ++ [mk 1 y.start y.pos] = _
        rw [h1, h2, h3, List.append_nil, show x.start = s.length by omega]
    rw [h5] at h4
    exact h4
  by_cases h : s.length ≤ x.pos
  · refine .go (st' := .done) (y := x) ?_ (key x (by omega) rfl rfl)
    show main E s dv x = _
    unfold main
    rw [if_pos h]
  · refine .go (st' := .done) (y := { x with pos := s.length }) ?_ (key _ rfl rfl rfl)
    show main E s dv x = _
    unfold main
    rw [if_neg h, hf.resolve_left h]
end
theorem txts_cut {s : T} {a b : Nat} {u : T} (h : cut s a b = u) : txts s a b = (let t := u.reverse; let k := (t.takeWhile isBl).length; if t ≠ [] ∧ k = t.length then [mk 17 a b] else if 0 < k ∧ (t.drop k).head? = some 10 then [mk 18 a (b - k), mk 17 (b - k) b] else [mk 18 a b]) := by
  unfold txts
  rw [h]
structure Kp (s : T) (x y : Lx) : Prop where
  o : y.org = x.org
  c : x.chk = true → y.chk = true
  n : y.name = x.name ∨ ∃ a b, y.name = ba (cut s a b)
theorem Kp.refl (s : T) (x : Lx) : Kp s x x := ⟨rfl, fun h => h, .inl rfl⟩
theorem Kp.same {s : T} {x y : Lx} (h1 : y.org = x.org) (h2 : y.chk = x.chk) (h3 : y.name = x.name) : Kp s x y := ⟨h1, fun h => by rw [h2]; exact h, .inl h3⟩
theorem kp_emitE (s : T) (t : Nat) (x : Lx) : Kp s x (emitE t s x) := by
  unfold emitE
  split <;> exact .same rfl rfl rfl
theorem kp_qEnd (s : T) (x : Lx) : Kp s x (qEnd s x) := by
  unfold qEnd
  split <;> exact .same rfl rfl rfl
theorem Kp.trans {s : T} {x y z : Lx} (h : Kp s x y) (k : Kp s y z) : Kp s x z := ⟨k.o.trans h.o, fun e => k.c (h.c e), by
  rcases k.n with h1 | h1
  · rw [h1]; exact h.n
  · exact .inr h1⟩
theorem kp_quoted (s : T) (alw : Bool) (ty : Nat) (x : Lx) : Kp s x (quoted s alw ty x).1 := by
  unfold quoted
  dsimp only
  split
  · exact .same rfl rfl rfl
  · split
    · refine Kp.trans ?_ (kp_qEnd s _); refine Kp.trans ?_ (kp_emitE s ty _); exact .same rfl rfl rfl
    · refine Kp.trans ?_ (kp_qEnd s _); exact .same rfl rfl rfl
theorem kp_raw (s : T) (ty : Nat) (x : Lx) : Kp s x (raw s ty x).1 := by
  unfold raw
  dsimp only
  split <;> exact .same rfl rfl rfl
theorem kp_param (E : Env) (s : T) (esc : Bool) (x : Lx) : Kp s x (param E s esc x).1 := by
  unfold param
  dsimp only
  split
  · split
    · exact .same rfl rfl rfl
    · split
      · refine Kp.trans ?_ (kp_quoted s _ _ _); exact .same rfl rfl rfl
      · refine Kp.trans ?_ (kp_raw s _ _); exact .same rfl rfl rfl
  · split
    · exact .same rfl rfl rfl
    · split
      · exact .same rfl rfl rfl
      · split
        · exact .same rfl rfl rfl
        · split <;> exact .same rfl rfl rfl
theorem kp_inside (E : Env) (s : T) (x : Lx) : Kp s x (inside E s x).1 := by
  unfold inside
  dsimp only
  split
  · exact .refl s x
  · split
    · exact .same rfl rfl rfl
    · split
      · exact .same rfl rfl rfl
      · split
        · split
          · refine Kp.trans ?_ (kp_quoted s _ _ _); exact .same rfl rfl rfl
          · split
            · refine Kp.trans ?_ (kp_raw s _ _); exact .same rfl rfl rfl
            · exact .same rfl rfl rfl
        · split
          · split <;> exact .same rfl rfl rfl
          · split
            · split
              · refine Kp.trans ?_ (kp_param E s _ _); exact .same rfl rfl rfl
              · exact .same rfl rfl rfl
            · split
              · exact kp_param E s _ _
              · split
                · exact .refl s x
                · exact .same rfl rfl rfl
theorem kp_ident (E : Env) (s : T) (x : Lx) : Kp s x (ident E s x).1 := by
  unfold ident
  dsimp only
  split
  · exact .same rfl rfl rfl
  · split
    · exact .same rfl rfl rfl
    · exact ⟨rfl, fun h => h, .inr ⟨_, _, rfl⟩⟩
theorem kp_piece (E : Env) (s : T) (dv : Bool) (x : Lx) : Kp s x (piece E s dv x).1 := by
  unfold piece
  dsimp only
  split
  · split <;> exact .same rfl rfl rfl
  · split
    · exact ⟨rfl, fun _ => rfl, .inl rfl⟩
    · exact .same rfl rfl rfl
theorem kp_main (E : Env) (s : T) (dv : Bool) (x : Lx) : Kp s x (main E s dv x).1 := by
  unfold main
  split
  · exact .refl s x
  · split
    · exact .same rfl rfl rfl
    · split
      · refine Kp.trans ?_ (kp_piece E s dv _); exact .same rfl rfl rfl
      · refine Kp.trans ?_ (kp_piece E s dv _); exact .same rfl rfl rfl
theorem kp_step {E : Env} {s : T} {dv : Bool} {st : St} (hst : mainSt st = true) (x : Lx) : Kp s x (step E s dv st x).1 := by
  cases st with
  | main => exact kp_main E s dv x
  | done => show Kp s x (done s x).1; unfold done; split <;> exact .same rfl rfl rfl
  | left => show Kp s x (left s x).1; unfold left; split <;> exact .same rfl rfl rfl
  | comment =>
    show Kp s x (comment s x).1
    unfold comment
    split
    · exact .same rfl rfl rfl
    · split <;> exact .same rfl rfl rfl
  | right => exact .same rfl rfl rfl
  | inside => exact kp_inside E s x
  | pval => exact .same rfl rfl rfl
  | ident => exact kp_ident E s x
  | endsc =>
    show Kp s x (endsc s x).1
    unfold endsc
    dsimp only
    split
    · exact .same rfl rfl rfl
    · split
      · exact .same rfl rfl rfl
      · split <;> exact .same rfl rfl rfl
  | intro => cases hst
  | json => cases hst
  | org => cases hst
theorem ba_size_le (s : T) (a b : Nat) : (ba (cut s a b)).size ≤ s.length := by
  have : (ba (cut s a b)).size = (cut s a b).length := by simp [ba, ByteArray.size]
  rw [this]
  unfold cut
  rw [List.length_take, List.length_drop]
  omega
end Go.Proofs.YtkehggbmpdacpabGreatDoor.Lex0
namespace Go.Proofs.YtkehggbmpdacpabGreatDoor.Pg
open Go.Rx hiding bt
open Go.RowKit Go.Proofs.YtkehggbmpdacpabGreatDoor.Dec0 Go.Proofs.YtkehggbmpdacpabGreatDoor.Lex0
theorem bo103 : bodyB Tryz.prog 83 = true := by kernel_rfl
theorem bo104 : bodyB Tryz.prog 84 = true := by kernel_rfl
theorem bo120 : bodyB Tryz.prog 98 = true := by kernel_rfl
theorem fb136_0 : fieldB Tryz.prog 113 0 = some 0 := by kernel_rfl
theorem fb136_1 : fieldB Tryz.prog 113 1 = some 1 := by kernel_rfl
theorem fb136_2 : fieldB Tryz.prog 113 2 = some 2 := by kernel_rfl
theorem fb136_3 : fieldB Tryz.prog 113 3 = some 3 := by kernel_rfl
theorem fb142_0 : fieldB Tryz.prog 119 0 = some 0 := by kernel_rfl
theorem fb142_1 : fieldB Tryz.prog 119 1 = some 1 := by kernel_rfl
theorem fb142_2 : fieldB Tryz.prog 119 2 = some 2 := by kernel_rfl
theorem fb142_3 : fieldB Tryz.prog 119 3 = some 3 := by kernel_rfl
theorem und133 : Tryz.prog.underlying 110 = some (.slice 114) := by kernel_rfl
theorem sz137 : szB Tryz.prog 114 1 = true := by kernel_rfl
theorem gr134 : growB Tryz.prog 111 3 1 8 = true := by kernel_rfl
structure Sec where
  gh : Nat
  g1 : Nat
  g2 : Nat
  gk : Nat
  kn : Nat
  kc : Nat
  kcs : List Value
  dv : Bool
  all : Bool
  s1 : Bool
  s2 : Bool
def pS (H : Hd) : Value := .pointer (some ⟨H.gS, 0, none⟩)
def sB (dv : Bool) (H : Hd) (S : Sec) : Nat × List Value × Bk := (H.gS, [pL H, .bool S.all, .slice (some ⟨S.gh, 0, none⟩) (bif dv then 2 else 1) 2, .slice (some ⟨S.gk, 0, none⟩) S.kn S.kc], .c 113)
def hB (dv : Bool) (S : Sec) : Nat × List Value × Bk := (S.gh, [.pointer (some ⟨S.g1, 0, none⟩), bif dv then .pointer (some ⟨S.g2, 0, none⟩) else .pointer none], .c 114)
def h1B (H : Hd) (S : Sec) : Nat × List Value × Bk := (S.g1, [pL H, .bool S.s1, fnV 112, fnV 115], .c 119)
def h2B (H : Hd) (S : Sec) : Nat × List Value × Bk := (S.g2, [pL H, .bool S.s2, fnV 120, fnV 121], .c 119)
def kB (S : Sec) : Nat × List Value × Bk := (S.gk, S.kcs, .c 3)
def secD (dv : Bool) (H : Hd) (S : Sec) : Mem := sB dv H S :: hB dv S :: h1B H S :: kB S :: (bif dv then [h2B H S] else [])
def secM (H : Hd) (S : Sec) : Mem := secD S.dv H S
theorem secM_eq {H : Hd} {S : Sec} {b : Bool} (h : S.dv = b) : secM H S = secD b H S := by unfold secM; rw [h]
structure SecMay (X : Cx) (H : Hd) (S : Sec) : Prop where
  s : X.may H.gS
  m1 : X.may S.g1
  m2 : X.may S.g2
  my : X.may S.gk
  kl : S.kcs.length = S.kc
  kx : S.kc ≤ maxLen
theorem SecMay.sub {X : Cx} {H : Hd} {S : Sec} (h : SecMay X H S) (n : Nat) (w : World) : SecMay (X.sub n w) H S := ⟨Cx.may_sub h.s, Cx.may_sub h.m1, Cx.may_sub h.m2, Cx.may_sub h.my, h.kl, h.kx⟩
theorem SecMay.up {X : Cx} {H : Hd} {S : Sec} {m : Mem} {n : Nat} {w : World} (hw : Cl X m w) (h : SecMay (X.sub n w) H S) : SecMay X H S := ⟨Cx.may_up hw h.s, Cx.may_up hw h.m1, Cx.may_up hw h.m2, Cx.may_up hw h.my, h.kl, h.kx⟩
def optI : Option Nat → Int
  | none => -1
  | some k => k
theorem idxI_opt (p l : T) : idxI p l = optI (idx p l) := by
  unfold idxI optI
  cases idx p l <;> rfl
def idxD (s : T) (x : Lx) : Option Nat := if x.chk then none else idx (divr x.org) (s.drop x.pos)
set_option maxHeartbeats 1000000 in
theorem hskip1_calls {X : Cx} {H : Hd} {G : Mem} (hX : Ok X H) {S : Sec} (hSm : SecMay X H S) {x : Lx} {q : RS} (hp : x.pos ≤ H.s.length) (hs1 : S.s1 = true → idx lsc (H.s.drop x.pos) = none) (st : Value) (W gd : Nat) : ∀ w, Cl X (cM H x st W gd q (secM H S) G) w →
    Calls Tryz.prog 98 #[.pointer (some ⟨S.g1, 0, none⟩)] w fun e w' => e = .returned (.int .i64 (optI (idx lsc (H.s.drop x.pos)))) ∧ Cl X (cM H x st W gd q (secM H { S with s1 := (idx lsc (H.s.drop x.pos)).isNone }) G) w' := by
  intro w hw
  refine enterC 23 hw Tryz.func98 rfl rfl (vs := [.pointer (some ⟨S.g1, 0, none⟩)]) rfl ?_
  replace hX := hX.sub hw 23
  replace hSm := hSm.sub 23 w
  conv => arg 2; arg 2; whnf
  have hI := idxI_opt lsc (H.s.drop x.pos)
  rcases (Bool.eq_false_or_eq_true S.s1).symm with hv | hv
  · cases hi : idx lsc (H.s.drop x.pos) with
    | none =>
      rw [hi] at hI
      obtain ⟨z, hz⟩ : ∃ z : Int, z = optI none := ⟨_, rfl⟩
      have hz1 : z = -1 := hz
      rw [← hz] at hI ⊢
      repeat' (first | refine cfalse (congrArg (fun b => some (Value.bool b)) hv) ?_ | first | (show PJ _ (Code.wp _ _ _) _ _; first | refine cseq ?_ | refine rtext ?_ | refine ctrue rfl ?_ | refine cskip ?_ | refine cret ?_ | (show PJ _ (Code.wp _ (Code.region 3 _ true) _) _ _; refine rtail 8 mixed (by kernel_rfl) ?_)) | (show PJ _ (wpList _ _ _ _) _ _; refine jlist ?_) | refine jnil ?_ | (first | refine jmv rfl rfl rfl ?_ | refine jy (ynil rfl) rfl rfl ?_ | (show Jo _ (.fieldAddr _ _ _); refine jy (yfield rfl (by first | exact fb142_0 | exact fb142_1 | exact fb142_2) rfl) rfl rfl ?_) | (show Jo _ (.load _ _); refine jy (yload (i := 7) rfl rfl rfl one4) rfl rfl ?_) | refine jas_ rfl rfl rfl ?_ | (show Jo _ (.binOp _ _ _ _ _); ((show Jo _ (.binOp .eql _ _ _ _); refine jy (yeql rfl rfl (by (exact decide_eq_true (by omega)))) rfl rfl ?_))) | (show Jo _ (.store _ _ _); refine jstore (i := 7) rfl rfl rfl rfl rfl si4 hSm.m1 ?_) | (show Jo _ (.call _); ((show Jo (some 16) (.call _); refine jcallC (k := 112) (us := []) (vs := [pL H]) (ι := Unit) (v := fun _ => .int .i64 (idxI lsc (H.s.drop x.pos))) (m' := fun _ => cM H x st W gd q (secM H S) G) (fun _ => True) rfl bo134 rfl rfl rfl (fun w' hw' => (skip1_calls hX (lsOf x st W (fV gd (divr x.org)) q.val) hp w' hw').mono fun e w'' h => ⟨(), h.1, h.2, trivial⟩) (fun _ _ => ?_); rw [hI])))))
      exact ret1 rfl rfl rfl (fun w' hw' => ⟨rfl, hw.up hw'⟩)
    | some k =>
      rw [hi] at hI
      obtain ⟨z, hz⟩ : ∃ z : Int, z = optI (some k) := ⟨_, rfl⟩
      have hz1 : z = (k : Int) := hz
      rw [← hz] at hI ⊢
      have hSe : ({ S with s1 := (some k).isNone } : Sec) = S := by cases S; dsimp only at hv; subst hv; rfl
      rw [hSe]
      repeat' (first | refine cfalse (congrArg (fun b => some (Value.bool b)) hv) ?_ | first | (show PJ _ (Code.wp _ _ _) _ _; first | refine cseq ?_ | refine rtext ?_ | refine cfalse rfl ?_ | refine cskip ?_ | refine cret ?_ | (show PJ _ (Code.wp _ (Code.region 3 _ true) _) _ _; refine rtail 8 mixed (by kernel_rfl) ?_)) | (show PJ _ (wpList _ _ _ _) _ _; refine jlist ?_) | refine jnil ?_ | (first | refine jmv rfl rfl rfl ?_ | refine jy (ynil rfl) rfl rfl ?_ | (show Jo _ (.fieldAddr _ _ _); refine jy (yfield rfl (by first | exact fb142_0 | exact fb142_1 | exact fb142_2) rfl) rfl rfl ?_) | (show Jo _ (.load _ _); refine jy (yload (i := 7) rfl rfl rfl one4) rfl rfl ?_) | refine jas_ rfl rfl rfl ?_ | (show Jo _ (.binOp _ _ _ _ _); ((show Jo _ (.binOp .eql _ _ _ _); refine jy (yeql rfl rfl (by (exact decide_eq_false (by omega)))) rfl rfl ?_))) | (show Jo _ (.call _); ((show Jo (some 16) (.call _); refine jcallC (k := 112) (us := []) (vs := [pL H]) (ι := Unit) (v := fun _ => .int .i64 (idxI lsc (H.s.drop x.pos))) (m' := fun _ => cM H x st W gd q (secM H S) G) (fun _ => True) rfl bo134 rfl rfl rfl (fun w' hw' => (skip1_calls hX (lsOf x st W (fV gd (divr x.org)) q.val) hp w' hw').mono fun e w'' h => ⟨(), h.1, h.2, trivial⟩) (fun _ _ => ?_); rw [hI])))))
      exact ret1 rfl rfl rfl (fun w' hw' => ⟨rfl, hw.up hw'⟩)
  · have hi := hs1 hv
    rw [hi]
    have hSe : ({ S with s1 := (none : Option Nat).isNone } : Sec) = S := by cases S; dsimp only at hv; subst hv; rfl
    rw [hSe]
    repeat' (first | refine ctrue (congrArg (fun b => some (Value.bool b)) hv) ?_ | first | refine cseq ?_ | refine rtext ?_ | refine cret ?_ | refine tret ?_ | refine jnil ?_ | (first | refine jmv rfl rfl rfl ?_ | refine jy (ynil rfl) rfl rfl ?_ | (show Jo _ (.fieldAddr _ _ _); refine jy (yfield rfl fb142_1 rfl) rfl rfl ?_) | (show Jo _ (.load _ _); refine jy (yload (i := 7) rfl rfl rfl one4) rfl rfl ?_) | refine jas_ rfl rfl rfl ?_))
    exact ret1 rfl rfl rfl (fun w' hw' => ⟨rfl, hw.up hw'⟩)
set_option maxHeartbeats 1000000 in
theorem hskip2_calls {X : Cx} {H : Hd} {G : Mem} (hX : Ok X H) {S : Sec} (hSm : SecMay X H S) (hdv : S.dv = true) {x : Lx} {q : RS} (hp : x.pos ≤ H.s.length) (hs2 : S.s2 = true → idxD H.s x = none) (st : Value) (W gd : Nat) : ∀ w, Cl X (cM H x st W gd q (secM H S) G) w →
    Calls Tryz.prog 98 #[.pointer (some ⟨S.g2, 0, none⟩)] w fun e w' => e = .returned (.int .i64 (optI (idxD H.s x))) ∧ Cl X (cM H x st W gd q (secM H { S with s2 := (idxD H.s x).isNone }) G) w' := by
  intro w hw
  rw [secM_eq (S := S) hdv] at hw
  rw [secM_eq (S := { S with s2 := (idxD H.s x).isNone }) hdv]
  refine enterC 23 hw Tryz.func98 rfl rfl (vs := [.pointer (some ⟨S.g2, 0, none⟩)]) rfl ?_
  replace hX := hX.sub hw 23
  replace hSm := hSm.sub 23 w
  conv => arg 2; arg 2; whnf
  have hI : (if x.chk then -1 else idxI (divr x.org) (H.s.drop x.pos)) = optI (idxD H.s x) := by
    unfold idxD
    cases x.chk
    · rw [if_neg (by simp), if_neg (by simp)]; exact idxI_opt _ _
    · rw [if_pos rfl, if_pos rfl]; rfl
  rcases (Bool.eq_false_or_eq_true S.s2).symm with hv | hv
  · cases hi : idxD H.s x with
    | none =>
      rw [hi] at hI
      obtain ⟨z, hz⟩ : ∃ z : Int, z = optI none := ⟨_, rfl⟩
      have hz1 : z = -1 := hz
      rw [← hz] at hI ⊢
      repeat' (first | refine cfalse (congrArg (fun b => some (Value.bool b)) hv) ?_ | first | (show PJ _ (Code.wp _ _ _) _ _; first | refine cseq ?_ | refine rtext ?_ | refine ctrue rfl ?_ | refine cskip ?_ | refine cret ?_ | (show PJ _ (Code.wp _ (Code.region 3 _ true) _) _ _; refine rtail 8 mixed (by kernel_rfl) ?_)) | (show PJ _ (wpList _ _ _ _) _ _; refine jlist ?_) | refine jnil ?_ | (first | refine jmv rfl rfl rfl ?_ | refine jy (ynil rfl) rfl rfl ?_ | (show Jo _ (.fieldAddr _ _ _); refine jy (yfield rfl (by first | exact fb142_0 | exact fb142_1 | exact fb142_2) rfl) rfl rfl ?_) | (show Jo _ (.load _ _); refine jy (yload (i := 9) rfl rfl rfl one4) rfl rfl ?_) | refine jas_ rfl rfl rfl ?_ | (show Jo _ (.binOp _ _ _ _ _); ((show Jo _ (.binOp .eql _ _ _ _); refine jy (yeql rfl rfl (by (exact decide_eq_true (by omega)))) rfl rfl ?_))) | (show Jo _ (.store _ _ _); refine jstore (i := 9) rfl rfl rfl rfl rfl si4 hSm.m2 ?_) | (show Jo _ (.call _); ((show Jo (some 16) (.call _); refine jcallC (k := 120) (us := []) (vs := [pL H]) (ι := Unit) (v := fun _ => .int .i64 (if x.chk then -1 else idxI (divr x.org) (H.s.drop x.pos))) (m' := fun _ => cM H x st W gd q (secD true H S) G) (fun _ => True) rfl bo142 rfl rfl rfl (fun w' hw' => (skip2_calls hX hp st W gd w' hw').mono fun e w'' h => ⟨(), h.1, h.2, trivial⟩) (fun _ _ => ?_); rw [hI])))))
      exact ret1 rfl rfl rfl (fun w' hw' => ⟨rfl, hw.up hw'⟩)
    | some k =>
      rw [hi] at hI
      obtain ⟨z, hz⟩ : ∃ z : Int, z = optI (some k) := ⟨_, rfl⟩
      have hz1 : z = (k : Int) := hz
      rw [← hz] at hI ⊢
      have hSe : ({ S with s2 := (some k).isNone } : Sec) = S := by cases S; dsimp only at hv; subst hv; rfl
      rw [hSe]
      repeat' (first | refine cfalse (congrArg (fun b => some (Value.bool b)) hv) ?_ | first | (show PJ _ (Code.wp _ _ _) _ _; first | refine cseq ?_ | refine rtext ?_ | refine cfalse rfl ?_ | refine cskip ?_ | refine cret ?_ | (show PJ _ (Code.wp _ (Code.region 3 _ true) _) _ _; refine rtail 8 mixed (by kernel_rfl) ?_)) | (show PJ _ (wpList _ _ _ _) _ _; refine jlist ?_) | refine jnil ?_ | (first | refine jmv rfl rfl rfl ?_ | refine jy (ynil rfl) rfl rfl ?_ | (show Jo _ (.fieldAddr _ _ _); refine jy (yfield rfl (by first | exact fb142_0 | exact fb142_1 | exact fb142_2) rfl) rfl rfl ?_) | (show Jo _ (.load _ _); refine jy (yload (i := 9) rfl rfl rfl one4) rfl rfl ?_) | refine jas_ rfl rfl rfl ?_ | (show Jo _ (.binOp _ _ _ _ _); ((show Jo _ (.binOp .eql _ _ _ _); refine jy (yeql rfl rfl (by (exact decide_eq_false (by omega)))) rfl rfl ?_))) | (show Jo _ (.call _); ((show Jo (some 16) (.call _); refine jcallC (k := 120) (us := []) (vs := [pL H]) (ι := Unit) (v := fun _ => .int .i64 (if x.chk then -1 else idxI (divr x.org) (H.s.drop x.pos))) (m' := fun _ => cM H x st W gd q (secD true H S) G) (fun _ => True) rfl bo142 rfl rfl rfl (fun w' hw' => (skip2_calls hX hp st W gd w' hw').mono fun e w'' h => ⟨(), h.1, h.2, trivial⟩) (fun _ _ => ?_); rw [hI])))))
      exact ret1 rfl rfl rfl (fun w' hw' => ⟨rfl, hw.up hw'⟩)
  · have hi := hs2 hv
    rw [hi]
    have hSe : ({ S with s2 := (none : Option Nat).isNone } : Sec) = S := by cases S; dsimp only at hv; subst hv; rfl
    rw [hSe]
    repeat' (first | refine ctrue (congrArg (fun b => some (Value.bool b)) hv) ?_ | first | refine cseq ?_ | refine rtext ?_ | refine cret ?_ | refine tret ?_ | refine jnil ?_ | (first | refine jmv rfl rfl rfl ?_ | refine jy (ynil rfl) rfl rfl ?_ | (show Jo _ (.fieldAddr _ _ _); refine jy (yfield rfl fb142_1 rfl) rfl rfl ?_) | (show Jo _ (.load _ _); refine jy (yload (i := 9) rfl rfl rfl one4) rfl rfl ?_) | refine jas_ rfl rfl rfl ?_))
    exact ret1 rfl rfl rfl (fun w' hw' => ⟨rfl, hw.up hw'⟩)
end Go.Proofs.YtkehggbmpdacpabGreatDoor.Pg
