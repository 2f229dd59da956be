/- The laws of pages in plain words: no dividers, no front matter, front matter of braces, of lines, between fences; what stands ahead. No program. -/
import Derived.Test.YtkehggbmpdacpaaGreatDoorPl3
set_option maxRecDepth 100000
set_option linter.unusedVariables false
set_option linter.unusedSimpArgs false
set_option linter.unusedSectionVars false
namespace Go.Proofs.YtkehggbmpdacpaaGreatDoor.Lex0
open Go.Proofs.YtkehggbmpdacpaaGreatDoor.Dec0 Go.Proofs.YtkehggbmpdacpaaGreatDoor.Txt0
section
variable {E : Env} {s : T} (h0 : idx (divr false) s = none) (h1 : idx (divr true) s = none)
include h0 h1
end
theorem runs_same {E : Env} {s : T} {dv : Bool} {st : St} {x y : Lx} {l : List Itm} (h : step E s dv st x = step E s dv st y) (hr : Runs E s dv st x l) : Runs E s dv st y l := by
  cases hr with
  | stop h1 => exact .stop (by rw [← h]; exact h1)
  | go h1 h2 => exact .go (by rw [← h]; exact h1) h2
def mvTi (k : Nat) (t : Ti) : Ti := { t with pos := t.pos + k }
theorem valI_sh {pre s : T} {k : Nat} (hk : pre.length = k) (it : Itm) : valI (pre ++ s) (shI k it) = valI s it := by
  unfold valI shI
  by_cases h : it.segs = []
  · rw [if_pos h]
    dsimp only
    rw [if_pos h, if_pos h, sh_cut hk]
  · rw [if_neg h]
    dsimp only
    rw [if_neg (by simpa using h), if_neg h, List.flatMap_map]
    simp only [sh_cut hk]
theorem posI_sh (k : Nat) (it : Itm) : posI (shI k it) = posI it + k := by
  unfold posI shI
  by_cases h : it.segs = []
  · rw [if_pos h, h]
  · rw [if_neg h]
    cases hs : it.segs with
    | nil => exact absurd hs h
    | cons p r => rfl
theorem told_sh {E : Env} {pre s : T} {k : Nat} (hk : pre.length = k) (it : Itm) : toldI E (pre ++ s) (shI k it) = mvTi k (toldI E s it) := by
  unfold toldI mvTi
  rw [valI_sh hk, posI_sh]
  have e1 : (shI k it).ty = it.ty := by unfold shI; split <;> rfl
  have e2 : (shI k it).err = it.err := by unfold shI; split <;> rfl
  rw [e1, e2]
theorem behind_told {E : Env} {pre s : T} {front dv : Bool} {I : List Itm} {B : List Ti} (h : parse E (pre ++ s) front dv = I ++ (parse E s false dv).map (shI pre.length)) (hI : I.map (toldI E (pre ++ s)) = B) :
    (parse E (pre ++ s) front dv).map (toldI E (pre ++ s)) = B ++ ((parse E s false dv).map (toldI E s)).map (mvTi pre.length) := by
  rw [h, List.map_append, hI, List.map_map, List.map_map]
  congr 1
  exact List.map_congr_left fun it _ => told_sh rfl it
theorem json_c {c : UInt8} {r : T} {n : Nat} {q : Bool} {lv : Nat} (h : c ≠ 92) : jsonL (c :: r) n q lv = (if c = 123 then jsonL r (n + 1) q (if q then lv else lv + 1)
    else if c = 125 then (if q then jsonL r (n + 1) q lv else if lv ≤ 1 then some (n + 1) else jsonL r (n + 1) q (lv - 1))
    else if c = 34 then jsonL r (n + 1) (!q) lv
    else jsonL r (n + 1) q lv) := by
  rw [jsonL]
  intro _ _ h1
  exact absurd h1 h
theorem json_in : ∀ (x : T) {r : T} (n : Nat) (lv : Nat), (∀ c ∈ x, c ≠ 92 ∧ c ≠ 34) → jsonL (x ++ r) n true lv = jsonL r (n + x.length) true lv := by
  intro x
  induction x with
  | nil => intro r n lv _; rfl
  | cons c x ih =>
    intro r n lv h
    have hc := h c (List.mem_cons_self ..)
    have h' := ih (r := r) (n + 1) lv (fun c hc => h c (List.mem_cons_of_mem _ hc))
    show jsonL (c :: (x ++ r)) n true lv = _
    rw [json_c hc.1, if_pos rfl, if_pos rfl, if_neg hc.2, h', List.length_cons, show n + 1 + x.length = n + (x.length + 1) by omega]
    simp only [ite_self]
section
variable {E : Env} (hal : E.al (-1) = false) (hT : TrA E)
include hal hT
end
theorem txts_mk {s : T} {a b : Nat} : ∀ it ∈ txts s a b, ∃ ty x y, it = mk ty x y ∧ y ≤ b ∧ (ty = 17 ∨ ty = 18) := by
  intro it hi
  unfold txts at hi
  dsimp only at hi
  split at hi
  · rw [List.mem_singleton] at hi; exact ⟨_, _, _, hi, Nat.le_refl _, .inl rfl⟩
  · split at hi
    · rcases List.mem_cons.1 hi with hi | hi
      · exact ⟨_, _, _, hi, Nat.sub_le _ _, .inr rfl⟩
      · rw [List.mem_singleton] at hi; exact ⟨_, _, _, hi, Nat.le_refl _, .inl rfl⟩
    · rw [List.mem_singleton] at hi; exact ⟨_, _, _, hi, Nat.le_refl _, .inr rfl⟩
theorem opn_mk {s : T} {a b : Nat} : ∀ it ∈ opn s a b, ∃ ty x y, it = mk ty x y ∧ y ≤ b ∧ (ty = 17 ∨ ty = 18) := by
  intro it hi
  unfold opn at hi
  split at hi
  · exact txts_mk it hi
  · cases hi
theorem cut_pre {s r : T} {a b : Nat} (h : b ≤ s.length) : cut (s ++ r) a b = cut s a b := by
  unfold cut
  by_cases ha : a ≤ s.length
  · rw [List.drop_append_of_le_length ha, List.take_append_of_le_length (by rw [List.length_drop]; omega)]
  · rw [show b - a = 0 by omega, List.take_zero, List.take_zero]
theorem told_pre {E : Env} {s r : T} {ty x y : Nat} (h : y ≤ s.length) : toldI E (s ++ r) (mk ty x y) = toldI E s (mk ty x y) := by
  unfold toldI
  have : valI (s ++ r) (mk ty x y) = valI s (mk ty x y) := by show cut (s ++ r) x y = cut s x y; exact cut_pre h
  rw [this]
theorem opn_pre {s r : T} {a : Nat} : opn (s ++ r) a s.length = opn s a s.length := by
  unfold opn txts
  rw [cut_pre (Nat.le_refl _)]
theorem no_lsc {u : T} (h : ∀ c ∈ u, c ≠ 123) : idx lsc u = none := by
  have := idx_skip (k := 123) (p := [123]) u (v := []) h
  rw [List.append_nil] at this
  rw [show lsc = 123 :: [123] from rfl, this, idx_nil (by simp)]
  rfl
theorem text_parse {E : Env} {u : T} (h : ∀ c ∈ u, c ≠ 123) : parse E u false false = opn u 0 u.length ++ [mk 1 u.length u.length] := by
  refine parse_of ?_
  have := go_end (E := E) (s := u) (dv := false) (x := lx0) (Nat.le_refl _) (Nat.zero_le _) (.inr (found_none (u := u) rfl (no_lsc h) (fun e => by cases e)))
  exact this
theorem law_ahead {E : Env} (hal : E.al (-1) = false) {u p : T} (h : ∀ c ∈ u, c ≠ 123) (hp : ∃ r, p = 123 :: 123 :: r) : parse E (u ++ p) false false = opn u 0 u.length ++ (parse E p false false).map (shI u.length) := by
  refine parse_of (front := false) ?_
  have h1 := sh_runs (pre := u) (I := opn u 0 u.length) (o := false) rfl hal (fun _ => rfl) (parses hal p false false) rfl (good0 E p false)
  refine runs_same ?_ h1
  obtain ⟨r, rfl⟩ := hp
  have f0 : found (u ++ 123 :: 123 :: r) false lx0 = some u.length := found_left (u := u) (r := r) rfl h (fun e => by cases e)
  have f1 : found (u ++ 123 :: 123 :: r) false (shX u.length (opn u 0 u.length) false lx0) = some 0 := found_left (u := []) (r := r) (by show (u ++ _).drop (0 + u.length) = _; rw [Nat.zero_add, List.drop_left]; rfl) (fun c hc => by cases hc) (fun e => by cases e)
  show main E _ false _ = main E _ false _
  rw [main_found f1, main_found f0]
  congr 1
  unfold shX lx0
  dsimp only
  have e1 : opn (u ++ 123 :: 123 :: r) (0 + u.length) (0 + u.length + 0) = [] := opn_none _ _
  rw [e1, Nat.zero_add, opn_pre]
  simp
theorem ahead_told {E : Env} (hal : E.al (-1) = false) {u p : T} (h : ∀ c ∈ u, c ≠ 123) (hp : ∃ r, p = 123 :: 123 :: r) : (parse E (u ++ p) false false).map (toldI E (u ++ p)) = ((parse E u false false).map (toldI E u)).dropLast ++ ((parse E p false false).map (toldI E p)).map (mvTi u.length) := by
  refine behind_told (front := false) (law_ahead hal h hp) ?_
  rw [text_parse h, List.map_append, List.map_cons, List.map_nil, List.dropLast_concat]
  refine List.map_congr_left fun it hi => ?_
  obtain ⟨ty, x, y, rfl, hy, _⟩ := opn_mk it hi
  exact told_pre hy
def wholeT (l : List Ti) : Bool := l.all (fun t => t.ty != 0) && (match l.getLast? with | none => false | some t => t.ty == 1)
theorem text_whole {E : Env} {u : T} (h : ∀ c ∈ u, c ≠ 123) : wholeT ((parse E u false false).map (toldI E u)) = true := by
  rw [text_parse h, List.map_append]
  unfold wholeT
  rw [List.all_append, List.getLast?_append]
  have : ((opn u 0 u.length).map (toldI E u)).all (fun t => t.ty != 0) = true := by
    rw [List.all_eq_true]
    intro t ht
    obtain ⟨it, hi, rfl⟩ := List.mem_map.1 ht
    obtain ⟨ty, x, y, rfl, hy, h⟩ := opn_mk it hi
    show (ty != 0) = true
    rcases h with rfl | rfl <;> rfl
  rw [this]
  rfl
end Go.Proofs.YtkehggbmpdacpaaGreatDoor.Lex0
