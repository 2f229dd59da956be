/- The laws of pages in plain words: no dividers, no front matter, front matter of braces, of lines, between fences; what stands ahead. No program. -/
import Derived.Test.YtkehggbmpdacpacGreatDoorPl3
set_option maxRecDepth 100000
set_option linter.unusedVariables false
set_option linter.unusedSimpArgs false
set_option linter.unusedSectionVars false
namespace Go.Proofs.YtkehggbmpdacpacGreatDoor.Lex0
open Go.Proofs.YtkehggbmpdacpacGreatDoor.Dec0 Go.Proofs.YtkehggbmpdacpacGreatDoor.Txt0
theorem idx_npre {p : T} (hp : p ≠ []) {l : T} (h : idx p l = none) : p.isPrefixOf l = false := by
  cases l with
  | nil =>
    cases p with
    | nil => exact absurd rfl hp
    | cons a p => rfl
  | cons c r =>
    rw [idx_cons] at h
    cases hc : p.isPrefixOf (c :: r)
    · rfl
    · rw [if_pos hc] at h; cases h
section
variable {E : Env} {s : T} (h0 : idx (divr false) s = none) (h1 : idx (divr true) s = none)
include h0 h1
theorem no_div_at (o : Bool) (n : Nat) : idx (divr o) (s.drop n) = none := idx_drop (divr_ne _) s n (by cases o; exact h0; exact h1)
theorem no_div_step (st : St) (x : Lx) : step E s true st x = step E s false st x := by
  cases st with
  | main =>
    show main E s true x = main E s false x
    have hp : ∀ y : Lx, piece E s true y = piece E s false y := fun y => by
      unfold piece
      have e : (divr y.org).isPrefixOf (s.drop y.pos) = false := idx_npre (divr_ne _) (no_div_at h0 h1 _ _)
      simp only [e, Bool.and_false]
    have hf : found s true x = found s false x := by
      unfold found
      rw [no_div_at h0 h1]
      simp only [ite_self]
    unfold main
    rw [hf]
    simp only [hp]
  | _ => rfl
theorem no_div_runs {st : St} {x : Lx} {l : List Itm} (h : Runs E s true st x l) : Runs E s false st x l := by
  induction h with
  | stop h => exact .stop (by rw [← no_div_step h0 h1]; exact h)
  | go h _ ih => exact .go (by rw [← no_div_step h0 h1]; exact h) ih
theorem law_noDivider (hal : E.al (-1) = false) (front : Bool) : parse E s front true = parse E s front false := (parse_of (front := front) (no_div_runs h0 h1 (parses hal s front true))).symm
end
def mvTi (k : Nat) (t : Ti) : Ti := { t with pos := t.pos + k }
theorem valI_sh {pre s : T} {k : Nat} (hk : pre.length = k) (it : Itm) : valI (pre ++ s) (shI k it) = valI s it := by
  unfold valI shI
  by_cases h : it.segs = []
  · rw [if_pos h]
    dsimp only
    rw [if_pos h, if_pos h, sh_cut hk]
  · rw [if_neg h]
    dsimp only
    rw [if_neg (by simpa using h), if_neg h, List.flatMap_map]
    simp only [sh_cut hk]
theorem posI_sh (k : Nat) (it : Itm) : posI (shI k it) = posI it + k := by
  unfold posI shI
  by_cases h : it.segs = []
  · rw [if_pos h, h]
  · rw [if_neg h]
    cases hs : it.segs with
    | nil => exact absurd hs h
    | cons p r => rfl
theorem told_sh {E : Env} {pre s : T} {k : Nat} (hk : pre.length = k) (it : Itm) : toldI E (pre ++ s) (shI k it) = mvTi k (toldI E s it) := by
  unfold toldI mvTi
  rw [valI_sh hk, posI_sh]
  have e1 : (shI k it).ty = it.ty := by unfold shI; split <;> rfl
  have e2 : (shI k it).err = it.err := by unfold shI; split <;> rfl
  rw [e1, e2]
theorem behind_front {E : Env} (hal : E.al (-1) = false) {pre s : T} {front dv o : Bool} (ho : dv = true → o = false) {I : List Itm}
    (h : Steps E (pre ++ s) dv (if front then .intro else .main) lx0 .main (shX pre.length I o lx0)) : parse E (pre ++ s) front dv = I ++ (parse E s false dv).map (shI pre.length) := by
  refine parse_of (h.runs ?_)
  exact sh_runs (pre := pre) rfl hal ho (parses hal s false dv) rfl (good0 E s false)
theorem behind_told {E : Env} {pre s : T} {front dv : Bool} {I : List Itm} {B : List Ti} (h : parse E (pre ++ s) front dv = I ++ (parse E s false dv).map (shI pre.length)) (hI : I.map (toldI E (pre ++ s)) = B) :
    (parse E (pre ++ s) front dv).map (toldI E (pre ++ s)) = B ++ ((parse E s false dv).map (toldI E s)).map (mvTi pre.length) := by
  rw [h, List.map_append, hI, List.map_map, List.map_map]
  congr 1
  exact List.map_congr_left fun it _ => told_sh rfl it
theorem json_c {c : UInt8} {r : T} {n : Nat} {q : Bool} {lv : Nat} (h : c ≠ 92) : jsonL (c :: r) n q lv = (if c = 123 then jsonL r (n + 1) q (if q then lv else lv + 1)
    else if c = 125 then (if q then jsonL r (n + 1) q lv else if lv ≤ 1 then some (n + 1) else jsonL r (n + 1) q (lv - 1))
    else if c = 34 then jsonL r (n + 1) (!q) lv
    else jsonL r (n + 1) q lv) := by
  rw [jsonL]
  intro _ _ h1
  exact absurd h1 h
theorem json_in : ∀ (x : T) {r : T} (n : Nat) (lv : Nat), (∀ c ∈ x, c ≠ 92 ∧ c ≠ 34) → jsonL (x ++ r) n true lv = jsonL r (n + x.length) true lv := by
  intro x
  induction x with
  | nil => intro r n lv _; rfl
  | cons c x ih =>
    intro r n lv h
    have hc := h c (List.mem_cons_self ..)
    have h' := ih (r := r) (n + 1) lv (fun c hc => h c (List.mem_cons_of_mem _ hc))
    show jsonL (c :: (x ++ r)) n true lv = _
    rw [json_c hc.1, if_pos rfl, if_pos rfl, if_neg hc.2, h', List.length_cons, show n + 1 + x.length = n + (x.length + 1) by omega]
    simp only [ite_self]
theorem asc_flat {f : T → T} {l : List T} (h : ∀ x ∈ l, asc (f x)) : asc (l.flatMap f) := fun c hc => by
  obtain ⟨x, hx, hc⟩ := List.mem_flatMap.1 hc
  exact h x hx c hc
section
variable {E : Env} (hal : E.al (-1) = false) (hT : TrA E)
include hal hT
end
def lineT (x : T) : T := 35 :: 43 :: (x ++ [10])
theorem org_line : ∀ (x : T) {r : T} (n : Nat), (∀ c ∈ x, c ≠ 10) → orgL (x ++ (10 :: r)) n = if [35, 43].isPrefixOf r = false then n + x.length + 1 else orgL r (n + x.length + 1) := by
  intro x
  induction x with
  | nil =>
    intro r n _
    show orgL (10 :: r) n = _
    rw [orgL]
    simp only [true_and]
    rfl
  | cons c x ih =>
    intro r n h
    show orgL (c :: (x ++ (10 :: r))) n = _
    rw [orgL, if_neg (fun e => h c (List.mem_cons_self ..) e.1), ih _ (fun c hc => h c (List.mem_cons_of_mem _ hc)), List.length_cons, show n + 1 + x.length = n + (x.length + 1) by omega]
theorem org_lines : ∀ (l : List T) {r : T} (n : Nat), l ≠ [] → (∀ x ∈ l, ∀ c ∈ x, c ≠ 10) → [35, 43].isPrefixOf r = false → orgL (l.flatMap lineT ++ r) n = n + (l.flatMap lineT).length := by
  intro l
  induction l with
  | nil => intro r n h; exact absurd rfl h
  | cons x l ih =>
    intro r n _ h hr
    have e : ((x :: l).flatMap lineT ++ r) = 35 :: 43 :: (x ++ (10 :: (l.flatMap lineT ++ r))) := by rw [List.flatMap_cons]; unfold lineT; simp
    have hl : ((x :: l).flatMap lineT).length = x.length + 3 + (l.flatMap lineT).length := by rw [List.flatMap_cons, List.length_append]; unfold lineT; simp
    rw [e, orgL, if_neg (fun e => absurd e.1 (by decide)), orgL, if_neg (fun e => absurd e.1 (by decide)), org_line x _ (h x (List.mem_cons_self ..)), hl]
    cases l with
    | nil =>
      rw [if_pos (by exact hr)]
      show _ = n + (x.length + 3 + 0)
      omega
    | cons y l =>
      rw [if_neg (by rw [List.flatMap_cons]; exact Bool.noConfusion), ih _ (by simp) (fun z hz => h z (List.mem_cons_of_mem _ hz)) hr]
      omega
theorem law_org {E : Env} (hal : E.al (-1) = false) (hT : TrA E) {l : List T} (rest : T) (hl : l ≠ []) (h : ∀ x ∈ l, QT x) (hr : rest.head? ≠ some 35) : (parse E (l.flatMap lineT ++ rest) true false).map (toldI E (l.flatMap lineT ++ rest)) =
    [tiOf 6 0 (l.flatMap lineT)] ++ ((parse E rest false false).map (toldI E rest)).map (mvTi (l.flatMap lineT).length) := by
  have hj : orgL (l.flatMap lineT ++ rest) 0 = (l.flatMap lineT).length := by
    rw [org_lines l 0 hl (fun x hx c hc => ((h x hx).q c hc).2.1) ?_, Nat.zero_add]
    cases rest with
    | nil => rfl
    | cons c r =>
      cases hc : ([35, 43] : T).isPrefixOf (c :: r)
      · rfl
      · simp only [List.isPrefixOf, Bool.and_eq_true, beq_iff_eq] at hc
        exact absurd (by rw [← hc.1]; rfl) hr
  generalize hs : l.flatMap lineT ++ rest = s at hj
  have h0 : ∃ r, s = 35 :: 43 :: r := by
    rw [← hs]
    cases l with
    | nil => exact absurd rfl hl
    | cons x l => exact ⟨_, rfl⟩
  have s1 : step E s false .intro lx0 = (lx0, some .org) := by
    obtain ⟨r, rfl⟩ := h0
    show intro (35 :: 43 :: r) lx0 = _
    unfold intro
    have hsp : spN ((35 :: 43 :: r : T).drop lx0.pos) = 0 := by show spN (35 :: 43 :: r) = 0; unfold spN; rfl
    rw [hsp]
    rfl
  have s2 : step E s false .org lx0 = (shX (l.flatMap lineT).length [mk 6 0 (l.flatMap lineT).length] true lx0, some .main) := by
    show org s lx0 = _
    unfold org
    rw [show s.drop lx0.pos = s from rfl, hj, if_pos (by obtain ⟨r, rfl⟩ := h0; rfl)]
    unfold emit mv shX lx0
    simp
  have hp : parse E s true false = [mk 6 0 (l.flatMap lineT).length] ++ (parse E rest false false).map (shI (l.flatMap lineT).length) := by
    have := behind_front hal (pre := l.flatMap lineT) (s := rest) (front := true) (dv := false) (o := true) (fun e => by cases e) (I := [mk 6 0 (l.flatMap lineT).length]) (by rw [hs]; exact .go s1 (.one s2))
    rw [hs] at this
    exact this
  subst hs
  refine behind_told hp ?_
  rw [List.map_cons, List.map_nil]
  rw [told_mk hT (t := l.flatMap lineT) (by unfold cut; rw [List.drop_zero, Nat.sub_zero, List.take_left]) (asc_flat fun x hx => asc_cons (by decide) (asc_cons (by decide) (asc_app (h x hx).asc (asc_cons (by decide) asc_nil))))]
theorem no_lsc {u : T} (h : ∀ c ∈ u, c ≠ 123) : idx lsc u = none := by
  have := idx_skip (k := 123) (p := [123]) u (v := []) h
  rw [List.append_nil] at this
  rw [show lsc = 123 :: [123] from rfl, this, idx_nil (by simp)]
  rfl
theorem text_parse {E : Env} {u : T} (h : ∀ c ∈ u, c ≠ 123) : parse E u false false = opn u 0 u.length ++ [mk 1 u.length u.length] := by
  refine parse_of ?_
  have := go_end (E := E) (s := u) (dv := false) (x := lx0) (Nat.le_refl _) (Nat.zero_le _) (.inr (found_none (u := u) rfl (no_lsc h) (fun e => by cases e)))
  exact this
def wholeT (l : List Ti) : Bool := l.all (fun t => t.ty != 0) && (match l.getLast? with | none => false | some t => t.ty == 1)
end Go.Proofs.YtkehggbmpdacpacGreatDoor.Lex0
