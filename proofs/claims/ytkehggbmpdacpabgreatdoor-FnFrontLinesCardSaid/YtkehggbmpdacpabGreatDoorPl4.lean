/- The laws of pages in plain words: no dividers, no front matter, front matter of braces, of lines, between fences; what stands ahead. No program. -/
import Derived.Test.YtkehggbmpdacpabGreatDoorPl3
set_option maxRecDepth 100000
set_option linter.unusedVariables false
set_option linter.unusedSimpArgs false
set_option linter.unusedSectionVars false
namespace Go.Proofs.YtkehggbmpdacpabGreatDoor.Lex0
open Go.Proofs.YtkehggbmpdacpabGreatDoor.Dec0 Go.Proofs.YtkehggbmpdacpabGreatDoor.Txt0
section
variable {E : Env} {s : T} (h0 : idx (divr false) s = none) (h1 : idx (divr true) s = none)
include h0 h1
end
theorem runs_same {E : Env} {s : T} {dv : Bool} {st : St} {x y : Lx} {l : List Itm} (h : step E s dv st x = step E s dv st y) (hr : Runs E s dv st x l) : Runs E s dv st y l := by
  cases hr with
  | stop h1 => exact .stop (by rw [← h]; exact h1)
  | go h1 h2 => exact .go (by rw [← h]; exact h1) h2
theorem idx_next {p : T} {c k : UInt8} {r : T} (h : c ≠ k) : idx (k :: p) (c :: r) = (idx (k :: p) r).map (· + 1) := by
  rw [idx_cons, if_neg]
  intro e
  simp only [List.isPrefixOf, Bool.and_eq_true, beq_iff_eq] at e
  exact h e.1.symm
theorem found_next {c : UInt8} {r : T} {dv : Bool} (h1 : c ≠ 123) (h2 : c ≠ 60) : found (c :: r) dv lx0 = (found (c :: r) dv (mv 1 lx0)).map (· + 1) := by
  unfold found
  show mn (idx lsc (c :: r)) (if dvOn dv lx0 then idx (divr false) (c :: r) else none) = Option.map _ (mn (idx lsc r) (if dvOn dv lx0 then idx (divr false) r else none))
  have e1 : idx lsc (c :: r) = (idx lsc r).map (· + 1) := idx_next h1
  have e2 : idx (divr false) (c :: r) = (idx (divr false) r).map (· + 1) := idx_next h2
  rw [e1, e2]
  cases dvOn dv lx0 <;> cases idx lsc r <;> cases idx (divr false) r <;> simp [mn]
theorem law_frontNone {E : Env} (hal : E.al (-1) = false) {c : UInt8} {r : T} (dv : Bool) (hl : c.toNat < 128) (hs : isSp c.toNat = false) (hn : c ≠ 43 ∧ c ≠ 45 ∧ c ≠ 123 ∧ c ≠ 35 ∧ c ≠ 60) : parse E (c :: r) true dv = parse E (c :: r) false dv := by
  refine parse_of ?_
  have h := parses hal (c :: r) false dv
  have e1 : step E (c :: r) dv .intro lx0 = (mv 1 lx0, some .main) := by
    show intro (c :: r) lx0 = _
    unfold intro
    have hsp : spN ((c :: r).drop lx0.pos) = 0 := by show spN (c :: r) = 0; unfold spN; rw [hs]; rfl
    rw [hsp]
    show (if c = 43 then _ else if c = 45 then _ else if c = 123 then _ else if c = 35 then _ else (mv (wd (c :: r)) (mv 0 lx0), some St.main)) = _
    rw [if_neg hn.1, if_neg hn.2.1, if_neg hn.2.2.1, if_neg hn.2.2.2.1, wd_ascii hl]
    rfl
  refine .go e1 (runs_same ?_ h)
  show main E (c :: r) dv lx0 = main E (c :: r) dv (mv 1 lx0)
  unfold main
  rw [found_next hn.2.2.1 hn.2.2.2.2]
  rw [if_neg (show ¬ (c :: r).length ≤ lx0.pos by simp [lx0])]
  cases r with
  | nil =>
    rw [if_pos (show [c].length ≤ (mv 1 lx0).pos by simp [lx0, mv])]
    have : found [c] dv (mv 1 lx0) = none := by
      unfold found
      show mn (idx lsc []) (if dvOn dv lx0 then idx (divr false) [] else none) = none
      rw [idx_nil lsc_ne, idx_nil (divr_ne _)]
      simp [mn]
    rw [this]
    rfl
  | cons d r =>
    rw [if_neg (show ¬ (c :: d :: r).length ≤ (mv 1 lx0).pos by simp [lx0, mv])]
    cases found (c :: d :: r) dv (mv 1 lx0) with
    | none => rfl
    | some q =>
      show piece E (c :: d :: r) dv (if 0 < 0 + (q + 1) then emitT _ (mv (q + 1) lx0) else mv (q + 1) lx0) = piece E (c :: d :: r) dv (if 0 < 0 + 1 + q then emitT _ (mv q (mv 1 lx0)) else mv q (mv 1 lx0))
      rw [if_pos (by omega), if_pos (by omega)]
      have : mv (q + 1) lx0 = mv q (mv 1 lx0) := by unfold mv; dsimp only [lx0]; congr 1; omega
      rw [this]
def mvTi (k : Nat) (t : Ti) : Ti := { t with pos := t.pos + k }
theorem valI_sh {pre s : T} {k : Nat} (hk : pre.length = k) (it : Itm) : valI (pre ++ s) (shI k it) = valI s it := by
  unfold valI shI
  by_cases h : it.segs = []
  · rw [if_pos h]
    dsimp only
    rw [if_pos h, if_pos h, sh_cut hk]
  · rw [if_neg h]
    dsimp only
    rw [if_neg (by simpa using h), if_neg h, List.flatMap_map]
    simp only [sh_cut hk]
theorem posI_sh (k : Nat) (it : Itm) : posI (shI k it) = posI it + k := by
  unfold posI shI
  by_cases h : it.segs = []
  · rw [if_pos h, h]
  · rw [if_neg h]
    cases hs : it.segs with
    | nil => exact absurd hs h
    | cons p r => rfl
theorem told_sh {E : Env} {pre s : T} {k : Nat} (hk : pre.length = k) (it : Itm) : toldI E (pre ++ s) (shI k it) = mvTi k (toldI E s it) := by
  unfold toldI mvTi
  rw [valI_sh hk, posI_sh]
  have e1 : (shI k it).ty = it.ty := by unfold shI; split <;> rfl
  have e2 : (shI k it).err = it.err := by unfold shI; split <;> rfl
  rw [e1, e2]
theorem behind_front {E : Env} (hal : E.al (-1) = false) {pre s : T} {front dv o : Bool} (ho : dv = true → o = false) {I : List Itm}
    (h : Steps E (pre ++ s) dv (if front then .intro else .main) lx0 .main (shX pre.length I o lx0)) : parse E (pre ++ s) front dv = I ++ (parse E s false dv).map (shI pre.length) := by
  refine parse_of (h.runs ?_)
  exact sh_runs (pre := pre) rfl hal ho (parses hal s false dv) rfl (good0 E s false)
theorem behind_told {E : Env} {pre s : T} {front dv : Bool} {I : List Itm} {B : List Ti} (h : parse E (pre ++ s) front dv = I ++ (parse E s false dv).map (shI pre.length)) (hI : I.map (toldI E (pre ++ s)) = B) :
    (parse E (pre ++ s) front dv).map (toldI E (pre ++ s)) = B ++ ((parse E s false dv).map (toldI E s)).map (mvTi pre.length) := by
  rw [h, List.map_append, hI, List.map_map, List.map_map]
  congr 1
  exact List.map_congr_left fun it _ => told_sh rfl it
theorem json_c {c : UInt8} {r : T} {n : Nat} {q : Bool} {lv : Nat} (h : c ≠ 92) : jsonL (c :: r) n q lv = (if c = 123 then jsonL r (n + 1) q (if q then lv else lv + 1)
    else if c = 125 then (if q then jsonL r (n + 1) q lv else if lv ≤ 1 then some (n + 1) else jsonL r (n + 1) q (lv - 1))
    else if c = 34 then jsonL r (n + 1) (!q) lv
    else jsonL r (n + 1) q lv) := by
  rw [jsonL]
  intro _ _ h1
  exact absurd h1 h
theorem json_in : ∀ (x : T) {r : T} (n : Nat) (lv : Nat), (∀ c ∈ x, c ≠ 92 ∧ c ≠ 34) → jsonL (x ++ r) n true lv = jsonL r (n + x.length) true lv := by
  intro x
  induction x with
  | nil => intro r n lv _; rfl
  | cons c x ih =>
    intro r n lv h
    have hc := h c (List.mem_cons_self ..)
    have h' := ih (r := r) (n + 1) lv (fun c hc => h c (List.mem_cons_of_mem _ hc))
    show jsonL (c :: (x ++ r)) n true lv = _
    rw [json_c hc.1, if_pos rfl, if_pos rfl, if_neg hc.2, h', List.length_cons, show n + 1 + x.length = n + (x.length + 1) by omega]
    simp only [ite_self]
def keyT (x : T) : T := 34 :: (x ++ [34, 58, 32, 123, 125, 44])
def jsonT (l : List T) : T := 123 :: (l.flatMap keyT ++ [125])
theorem json_key {x r : T} (n : Nat) (h : ∀ c ∈ x, c ≠ 92 ∧ c ≠ 34) : jsonL (keyT x ++ r) n false 1 = jsonL r (n + (keyT x).length) false 1 := by
  have e : keyT x ++ r = 34 :: (x ++ (34 :: 58 :: 32 :: 123 :: 125 :: 44 :: r)) := by unfold keyT; simp
  rw [e, json_c (by decide)]
  show jsonL (x ++ _) (n + 1) true 1 = _
  rw [json_in x _ _ h, json_c (by decide)]
  show jsonL (58 :: _) _ false 1 = _
  rw [json_c (by decide)]
  show jsonL (32 :: _) _ false 1 = _
  rw [json_c (by decide)]
  show jsonL (123 :: _) _ false 1 = _
  rw [json_c (by decide)]
  show jsonL (125 :: _) _ false 2 = _
  rw [json_c (by decide)]
  show jsonL (44 :: _) _ false 1 = _
  rw [json_c (by decide)]
  show jsonL r _ false 1 = _
  congr 1
  unfold keyT
  simp
  omega
theorem json_keys : ∀ (l : List T) {r : T} (n : Nat), (∀ x ∈ l, ∀ c ∈ x, c ≠ 92 ∧ c ≠ 34) → jsonL (l.flatMap keyT ++ r) n false 1 = jsonL r (n + (l.flatMap keyT).length) false 1 := by
  intro l
  induction l with
  | nil => intro r n _; rfl
  | cons x l ih =>
    intro r n h
    rw [List.flatMap_cons, List.append_assoc, json_key n (h x (List.mem_cons_self ..)), ih _ (fun y hy => h y (List.mem_cons_of_mem _ hy)), List.length_append, Nat.add_assoc]
theorem json_all {l : List T} {r : T} (h : ∀ x ∈ l, ∀ c ∈ x, c ≠ 92 ∧ c ≠ 34) : jsonL (jsonT l ++ r) 0 false 0 = some (jsonT l).length := by
  have e : jsonT l ++ r = 123 :: (l.flatMap keyT ++ (125 :: r)) := by unfold jsonT; simp
  rw [e, json_c (by decide)]
  show jsonL (l.flatMap keyT ++ (125 :: r)) 1 false 1 = _
  rw [json_keys l _ h, json_c (by decide)]
  show some (1 + (l.flatMap keyT).length + 1) = _
  congr 1
  unfold jsonT
  simp
  omega
theorem asc_flat {f : T → T} {l : List T} (h : ∀ x ∈ l, asc (f x)) : asc (l.flatMap f) := fun c hc => by
  obtain ⟨x, hx, hc⟩ := List.mem_flatMap.1 hc
  exact h x hx c hc
theorem asc_json {l : List T} (h : ∀ x ∈ l, asc x) : asc (jsonT l) := by
  refine asc_cons (by decide) (asc_app (asc_flat fun x hx => ?_) (asc_cons (by decide) asc_nil))
  refine asc_cons (by decide) (asc_app (h x hx) ?_)
  intro c hc; revert c; decide
section
variable {E : Env} (hal : E.al (-1) = false) (hT : TrA E)
include hal hT
theorem law_json (dv : Bool) {l : List T} (rest : T) (h : ∀ x ∈ l, QT x) : (parse E ((jsonT l ++ [10]) ++ rest) true dv).map (toldI E ((jsonT l ++ [10]) ++ rest)) =
    [tiOf 5 0 (jsonT l ++ [10])] ++ ((parse E rest false dv).map (toldI E rest)).map (mvTi (jsonT l ++ [10]).length) := by
  have hlen : (jsonT l ++ [10] : T).length = (jsonT l).length + 1 := by simp
  have hj : jsonL ((jsonT l ++ [10]) ++ rest) 0 false 0 = some (jsonT l).length := by
    rw [List.append_assoc]
    exact json_all fun x hx c hc => ⟨((h x hx).q c hc).1, ((h x hx).q c hc).2.2⟩
  generalize hs : (jsonT l ++ [10]) ++ rest = s at hj
  have hd : s.drop (jsonT l).length = 10 :: rest := by rw [← hs, List.append_assoc, List.drop_left]; rfl
  have h0 : ∃ r, s = 123 :: r := by rw [← hs]; exact ⟨_, rfl⟩
  have s1 : step E s dv .intro lx0 = (lx0, some .json) := by
    obtain ⟨r, rfl⟩ := h0
    show intro (123 :: r) lx0 = _
    unfold intro
    have hsp : spN ((123 :: r : T).drop lx0.pos) = 0 := by show spN (123 :: r) = 0; unfold spN; rfl
    rw [hsp]
    rfl
  have s2 : step E s dv .json lx0 = (shX (jsonT l ++ [10]).length [mk 5 0 (jsonT l ++ [10]).length] false lx0, some .main) := by
    show json s lx0 = _
    unfold json
    rw [show s.drop lx0.pos = s from rfl, hj]
    show (emit 5 (mv ((jsonT l).length + crlf (s.drop (0 + (jsonT l).length))) lx0), some St.main) = _
    rw [Nat.zero_add, hd, hlen]
    show (emit 5 (mv ((jsonT l).length + 1) lx0), some St.main) = _
    unfold emit mv shX lx0
    simp
  have hp : parse E s true dv = [mk 5 0 (jsonT l ++ [10]).length] ++ (parse E rest false dv).map (shI (jsonT l ++ [10]).length) := by
    have := behind_front hal (pre := jsonT l ++ [10]) (s := rest) (front := true) (dv := dv) (o := false) (fun _ => rfl) (I := [mk 5 0 (jsonT l ++ [10]).length]) (by rw [hs]; exact .go s1 (.one s2))
    rw [hs] at this
    exact this
  subst hs
  refine behind_told hp ?_
  rw [List.map_cons, List.map_nil]
  rw [told_mk hT (t := jsonT l ++ [10]) (by unfold cut; rw [List.drop_zero, Nat.sub_zero, List.take_left]) (asc_app (asc_json fun x hx => (h x hx).asc) (asc_cons (by decide) asc_nil))]
end
def crT (x : T) : T := x ++ [13, 10]
theorem fr_line {d : T} {k : UInt8} (hd : d = [k, k, k]) (hk : k ≠ 10 ∧ k ≠ 13) : ∀ (x : T) {r : T} (n : Nat), (∀ c ∈ x, c ≠ 10 ∧ c ≠ 13) → fr d (x ++ (13 :: 10 :: r)) n = if d.isPrefixOf r = true then some (n + x.length + 2) else fr d r (n + x.length + 2) := by
  intro x
  induction x with
  | nil =>
    intro r n _
    show fr d (13 :: 10 :: r) n = _
    rw [fr, if_neg (fun e => by
      have e2 := e.2
      rw [hd] at e2
      simp only [List.isPrefixOf, Bool.and_eq_true, beq_iff_eq] at e2
      exact hk.1 e2.1), fr]
    by_cases hp : d.isPrefixOf r = true
    · rw [if_pos ⟨.inr rfl, hp⟩, if_pos hp]; rfl
    · rw [if_neg (fun e => hp e.2), if_neg hp]; rfl
  | cons c x ih =>
    intro r n h
    have hc := h c (List.mem_cons_self ..)
    show fr d (c :: (x ++ (13 :: 10 :: r))) n = _
    rw [fr, if_neg (fun e => e.1.elim hc.2 hc.1), ih _ (fun c hc => h c (List.mem_cons_of_mem _ hc)), List.length_cons, show n + 1 + x.length = n + (x.length + 1) by omega]
theorem fr_head {k c : UInt8} {r : T} (h : c ≠ k) : ([k, k, k] : T).isPrefixOf (c :: r) = false := by
  cases hc : ([k, k, k] : T).isPrefixOf (c :: r)
  · rfl
  · simp only [List.isPrefixOf, Bool.and_eq_true, beq_iff_eq] at hc
    exact absurd hc.1.symm h
theorem cr_head {k : UInt8} (hk : k ≠ 13) {x r : T} (h : x.head? ≠ some k) : ([k, k, k] : T).isPrefixOf (crT x ++ r) = false := by
  cases x with
  | nil => exact fr_head hk.symm
  | cons c x => exact fr_head (fun e => h (by rw [e]; rfl))
theorem fr_lines {k : UInt8} (hk : k ≠ 10 ∧ k ≠ 13) : ∀ (l : List T) {r : T} (n : Nat), l ≠ [] → (∀ x ∈ l, (∀ c ∈ x, c ≠ 10 ∧ c ≠ 13) ∧ x.head? ≠ some k) → fr [k, k, k] (l.flatMap crT ++ ([k, k, k] ++ r)) n = some (n + (l.flatMap crT).length) := by
  intro l
  induction l with
  | nil => intro r n h; exact absurd rfl h
  | cons x l ih =>
    intro r n _ h
    have hx := h x (List.mem_cons_self ..)
    have e : ((x :: l).flatMap crT ++ ([k, k, k] ++ r)) = x ++ (13 :: 10 :: (l.flatMap crT ++ ([k, k, k] ++ r))) := by rw [List.flatMap_cons]; unfold crT; simp
    have hl : ((x :: l).flatMap crT).length = x.length + 2 + (l.flatMap crT).length := by rw [List.flatMap_cons, List.length_append]; unfold crT; simp
    rw [e, fr_line rfl hk x _ hx.1, hl]
    cases l with
    | nil =>
      rw [if_pos (by exact pre_app _ _)]
      show _ = some (n + (x.length + 2 + 0))
      congr 1
    | cons y l =>
      rw [if_neg (by rw [List.flatMap_cons, List.append_assoc, cr_head hk.2 (h y (by simp)).2]; simp), ih _ (by simp) (fun z hz => h z (List.mem_cons_of_mem _ hz))]
      congr 1
      omega
theorem law_fence {E : Env} (hal : E.al (-1) = false) (hT : TrA E) (dv : Bool) (k : UInt8) (ty : Nat) (hk : k = 43 ∧ ty = 4 ∨ k = 45 ∧ ty = 3) {l : List T} (rest : T) (hl : l ≠ []) (h : ∀ x ∈ l, asc x ∧ (∀ c ∈ x, c ≠ 10 ∧ c ≠ 13) ∧ x.head? ≠ some k) {pre : T}
    (hpre : pre = [k, k, k, 13, 10] ++ (l.flatMap crT ++ [k, k, k, 13, 10])) : (parse E (pre ++ rest) true dv).map (toldI E (pre ++ rest)) =
    [tiOf ty 5 (l.flatMap crT)] ++ ((parse E rest false dv).map (toldI E rest)).map (mvTi pre.length) := by
  have hk' : k ≠ 10 ∧ k ≠ 13 := by rcases hk with ⟨rfl, _⟩ | ⟨rfl, _⟩ <;> decide
  have hsp : isSp k.toNat = false := by rcases hk with ⟨rfl, _⟩ | ⟨rfl, _⟩ <;> decide
  have hlen : pre.length = (l.flatMap crT).length + 10 := by rw [hpre]; simp
  generalize hs : pre ++ rest = s
  have e0 : s = k :: k :: k :: 13 :: 10 :: (l.flatMap crT ++ ([k, k, k] ++ (13 :: 10 :: rest))) := by rw [← hs, hpre]; simp
  have d1 : s.drop 5 = l.flatMap crT ++ ([k, k, k] ++ (13 :: 10 :: rest)) := by rw [e0]; rfl
  have d2 : s.drop (5 + (l.flatMap crT).length + 3) = 13 :: 10 :: rest := by rw [← List.drop_drop, ← List.drop_drop, d1, List.drop_left]; rfl
  have hf : fr0 [k, k, k] (s.drop 5) true = some (l.flatMap crT).length := by
    unfold fr0
    rw [d1, if_neg ?_, fr_lines hk' l 0 hl (fun x hx => (h x hx).2), Nat.zero_add]
    rintro ⟨_, e⟩
    cases l with
    | nil => exact hl rfl
    | cons y l =>
      rw [List.flatMap_cons, List.append_assoc, cr_head hk'.2 (h y (by simp)).2.2] at e
      cases e
  have s0 : step E s dv .intro lx0 = fence s k ty (mv 1 lx0) := by
    show intro s lx0 = _
    unfold intro
    have hsp0 : spN (s.drop lx0.pos) = 0 := by rw [e0]; show spN (k :: _) = 0; unfold spN; rw [if_neg (by rw [hsp]; exact Bool.noConfusion)]
    rw [hsp0]
    dsimp only
    have e1 : s.drop (mv 0 lx0).pos = k :: k :: k :: 13 :: 10 :: (l.flatMap crT ++ ([k, k, k] ++ (13 :: 10 :: rest))) := by rw [e0]; rfl
    rw [e1]
    rcases hk with ⟨rfl, rfl⟩ | ⟨rfl, rfl⟩ <;> rfl
  have s1 : fence s k ty (mv 1 lx0) = (shX pre.length [mk ty 5 (5 + (l.flatMap crT).length)] false lx0, some .main) := by
    unfold fence
    have e1 : s.drop (mv 1 lx0).pos = k :: k :: 13 :: 10 :: (l.flatMap crT ++ ([k, k, k] ++ (13 :: 10 :: rest))) := by rw [e0]; rfl
    rw [e1]
    dsimp only
    rw [if_pos rfl, if_pos rfl]
    show (match fr0 [k, k, k] (s.drop 5) true with
      | none => fail { ign (mv (2 + 2) (mv 1 lx0)) with pos := s.length }
      | some n => (ign (mv (3 + crlf (s.drop (5 + n + 3))) (emit ty (mv n (ign (mv (2 + 2) (mv 1 lx0)))))), some St.main)) = _
    rw [hf]
    dsimp only
    rw [d2, hlen]
    show (ign (mv (3 + 2) (emit ty (mv _ (ign (mv (2 + 2) (mv 1 lx0)))))), some St.main) = _
    unfold ign emit mv shX lx0
    simp
    omega
  have hp : parse E s true dv = [mk ty 5 (5 + (l.flatMap crT).length)] ++ (parse E rest false dv).map (shI pre.length) := by
    have := behind_front hal (pre := pre) (s := rest) (front := true) (dv := dv) (o := false) (fun _ => rfl) (I := [mk ty 5 (5 + (l.flatMap crT).length)]) (by rw [hs]; exact .one (s0.trans s1))
    rw [hs] at this
    exact this
  subst hs
  refine behind_told hp ?_
  rw [List.map_cons, List.map_nil]
  rw [told_mk hT (t := l.flatMap crT) (cut_at d1) (asc_flat fun x hx => asc_app (h x hx).1 (by intro c hc; revert c; decide))]
theorem no_lsc {u : T} (h : ∀ c ∈ u, c ≠ 123) : idx lsc u = none := by
  have := idx_skip (k := 123) (p := [123]) u (v := []) h
  rw [List.append_nil] at this
  rw [show lsc = 123 :: [123] from rfl, this, idx_nil (by simp)]
  rfl
theorem text_parse {E : Env} {u : T} (h : ∀ c ∈ u, c ≠ 123) : parse E u false false = opn u 0 u.length ++ [mk 1 u.length u.length] := by
  refine parse_of ?_
  have := go_end (E := E) (s := u) (dv := false) (x := lx0) (Nat.le_refl _) (Nat.zero_le _) (.inr (found_none (u := u) rfl (no_lsc h) (fun e => by cases e)))
  exact this
def wholeT (l : List Ti) : Bool := l.all (fun t => t.ty != 0) && (match l.getLast? with | none => false | some t => t.ty == 1)
end Go.Proofs.YtkehggbmpdacpabGreatDoor.Lex0
