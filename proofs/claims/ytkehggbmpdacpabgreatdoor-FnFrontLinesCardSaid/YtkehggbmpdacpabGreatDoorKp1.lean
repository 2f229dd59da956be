/- The page laws: texts that all of them use, joined (part 1): Dec0, Lex0, ShelfLib, Pg0, Pg1, PgR. -/
import Derived.Lib.DecodeN
import Derived.Laws.Cover4
import Derived.Shelf.Small.Utf8
import Derived.Shelf.LaysM
import Derived.Shelf.Bytes.Len
import Derived.Shelf.Bytes.TryGrow
import Derived.Shelf.Bytes.GrowSliceCatch
import Derived.Shelf.Bytes.GrowSlice
import Derived.Shelf.Bytes.Bytes
import Derived.Shelf.Bytes.GrowRow0Kept
import Derived.Shelf.Bytes.GrowRowKept
import Derived.Shelf.Bytes.GrowNilKept
import Derived.Shelf.Bytes.GrowKept
import Derived.Shelf.Bytes.WriteKept
import Derived.Shelf.Unicode.Latin
import Derived.Shelf.Unicode.Props
import Derived.Shelf.Unicode.Is16White
import Derived.Shelf.Unicode.IsSpaceAny
import Derived.Shelf.Unicode.Is16Any
import Derived.Shelf.Unicode.Is32Any
import Derived.Shelf.Unicode.ExclAny
import Derived.Shelf.Unicode.PredsAny
import Derived.Shelf.Unicode.PredsPay
import Derived.Shelf.Spec.DecodeRune
import Derived.Shelf.Spec.BytesIndexFunc
import Derived.Shelf.Spec.BytesTrimFunc
import Derived.Test.YtkehggbmpdacpabGreatDoorProg
import Derived.Lib.Space
import Derived.Defers
import Derived.Lib.SlBytesConst
import Derived.Deep.AppendSrc
import Derived.Scope
import Derived.Test.YtkehggbmpdacpabGreatDoorKp0
set_option maxRecDepth 100000
set_option linter.unusedVariables false
set_option linter.unusedSimpArgs false
set_option linter.unusedSectionVars false
namespace Go.Proofs.YtkehggbmpdacpabGreatDoor.Dec0
open Go Go.Lib
abbrev T := List UInt8
def gb (l : T) (i : Nat) : Nat := (l.getD i 0).toNat
def dec (l : T) : Nat × Nat := decodeN l.length (gb l 0) (gb l 1) (gb l 2) (gb l 3)
def rn (l : T) : Int := if l = [] then -1 else ((dec l).1 : Int)
def wd (l : T) : Nat := if l = [] then 0 else (dec l).2
theorem gb_lt (l : T) (i : Nat) : gb l i < 256 := UInt8.toNat_lt _
theorem gb_out {l : T} {i : Nat} (h : l.length ≤ i) : gb l i = 0 := by
  unfold gb
  rw [List.getD_eq_getElem?_getD, List.getElem?_eq_none h]
  rfl
theorem decodeN_ge (n b0 b1 b2 b3 : Nat) : 1 ≤ (decodeN n b0 b1 b2 b3).2 := by
  unfold decodeN
  repeat' split
  all_goals simp
theorem wd_pos {l : T} (h : l ≠ []) : 1 ≤ wd l := by
  unfold wd
  rw [if_neg h]
  exact decodeN_ge _ _ _ _ _
theorem dec_ascii {l : T} (h : gb l 0 < 128) : dec l = (gb l 0, 1) := by
  unfold dec decodeN
  rw [if_pos h]
theorem rn_ascii {c : UInt8} {r : T} (h : c.toNat < 128) : rn (c :: r) = (c.toNat : Int) := by
  unfold rn
  rw [if_neg (by simp), dec_ascii (l := c :: r) h]
  rfl
theorem wd_ascii {c : UInt8} {r : T} (h : c.toNat < 128) : wd (c :: r) = 1 := by
  unfold wd
  rw [if_neg (by simp), dec_ascii (l := c :: r) h]
theorem dec_wide {l : T} (h : 128 ≤ gb l 0) : 128 ≤ (dec l).1 ∧ (dec l).2 ≤ l.length ∧ (∀ j, j < (dec l).2 → 128 ≤ gb l j) := by
  have hl : 0 < l.length := by
    rcases Nat.eq_zero_or_pos l.length with e | e
    · rw [gb_out (by omega)] at h; omega
    · exact e
  have one : ∀ j, j < 1 → 128 ≤ gb l j := fun j hj => by
    have : j = 0 := by omega
    rw [this]
    exact h
  unfold dec decodeN
  rw [if_neg (by omega)]
  repeat' split
  all_goals first
    | exact ⟨by decide, hl, one⟩
    | (rename_i h1 h2
       refine ⟨by dsimp only; omega, by dsimp only; omega, fun j hj => ?_⟩
       dsimp only at hj
       have : j = 0 ∨ j = 1 ∨ j = 2 ∨ j = 3 := by omega
       rcases this with rfl | rfl | rfl | rfl <;> omega)
    | (rename_i h1 h2 h3
       refine ⟨by dsimp only; omega, by dsimp only; omega, fun j hj => ?_⟩
       dsimp only at hj
       have : j = 0 ∨ j = 1 ∨ j = 2 ∨ j = 3 := by omega
       rcases this with rfl | rfl | rfl | rfl <;> omega)
theorem wd_le (l : T) : wd l ≤ l.length := by
  unfold wd
  by_cases h : l = []
  · rw [if_pos h]; omega
  · rw [if_neg h]
    have hl : 0 < l.length := List.length_pos_iff.2 h
    rcases Nat.lt_or_ge (gb l 0) 128 with h' | h'
    · rw [dec_ascii h']; omega
    · exact (dec_wide h').2.1
theorem rn_neg {l : T} : rn l = -1 ↔ l = [] := by
  unfold rn
  split
  · rename_i h; simp [h]
  · rename_i h; simp [h]
theorem rn_ge {l : T} (h : l ≠ []) : 0 ≤ rn l := by unfold rn; rw [if_neg h]; omega
theorem rn_cons (c : UInt8) (r : T) : (c.toNat < 128 ∧ rn (c :: r) = (c.toNat : Int) ∧ wd (c :: r) = 1) ∨ (128 ≤ c.toNat ∧ 128 ≤ rn (c :: r)) := by
  rcases Nat.lt_or_ge c.toNat 128 with h | h
  · exact .inl ⟨h, rn_ascii h, wd_ascii h⟩
  · refine .inr ⟨h, ?_⟩
    unfold rn
    rw [if_neg (by simp)]
    have := (dec_wide (l := c :: r) h).1
    omega
theorem rn_eq {c : UInt8} {r : T} {k : Nat} (hk : k < 128) : rn (c :: r) = (k : Int) ↔ c.toNat = k := by
  rcases rn_cons c r with ⟨h1, h2, _⟩ | ⟨h1, h2⟩ <;> omega
theorem dec_max (l : T) : (dec l).1 ≤ 1114111 := by
  have := gb_lt l 0
  have := gb_lt l 1
  have := gb_lt l 2
  have := gb_lt l 3
  unfold dec decodeN
  repeat' split
  all_goals (dsimp only; omega)
theorem rn_max (l : T) : -1 ≤ rn l ∧ rn l ≤ 1114111 := by
  have := dec_max l
  unfold rn
  split <;> omega
theorem decode_dec (s : ByteArray) (p : Nat) : Utf8.decode s p = dec (s.data.toList.drop p) := by
  have e : ∀ k, (s.get! (p + k)).toNat = gb (s.data.toList.drop p) k := by
    intro k
    unfold gb
    rw [List.getD_eq_getElem?_getD, List.getElem?_drop]
    have e1 : s.get! (p + k) = (s.data.toList[p + k]?).getD 0 := by
      show s.data[p + k]! = _
      rw [Array.getElem!_eq_getD, Array.getD_eq_getD_getElem?, Array.getElem?_toList]
      rfl
    rw [e1]
  rw [decode_at]
  unfold dec
  have h0 := e 0
  rw [Nat.add_zero] at h0
  rw [h0, e 1, e 2, e 3]
  simp
def rs (l : T) : List Int := if h : l ≠ [] then rn l :: rs (l.drop (wd l)) else []
termination_by l.length
decreasing_by
  have := wd_pos h
  have : 0 < l.length := List.length_pos_iff.2 h
  simp; omega
def en (z : Int) : T := (Utf8.encode z).data.toList
def isR (z : Int) : Prop := 0 ≤ z ∧ z ≤ 1114111 ∧ ¬ (55296 ≤ z ∧ z ≤ 57343)
end Go.Proofs.YtkehggbmpdacpabGreatDoor.Dec0
namespace Go.Proofs.YtkehggbmpdacpabGreatDoor.Lex0
open Go.Proofs.YtkehggbmpdacpabGreatDoor.Dec0
structure Env where
  al : Int → Bool
  tr : T → T
def isSp (c : Nat) : Bool := c == 9 || c == 10 || c == 11 || c == 12 || c == 13 || c == 32
def isBl (c : UInt8) : Bool := c == 32 || c == 9 || c == 13
def spN : T → Nat
  | [] => 0
  | c :: r => if isSp c.toNat then spN r + 1 else 0
def toSpN : T → Nat
  | [] => 0
  | c :: r => if isSp c.toNat then 0 else toSpN r + 1
def idx (p : T) : T → Option Nat
  | [] => if p = [] then some 0 else none
  | c :: r => if p.isPrefixOf (c :: r) then some 0 else (idx p r).map (· + 1)
def runN (p : Int → Bool) (l : T) : Nat := if h : l ≠ [] ∧ p (rn l) = true then wd l + runN p (l.drop (wd l)) else 0
termination_by l.length
decreasing_by
  have := wd_pos h.1
  have : 0 < l.length := List.length_pos_iff.2 h.1
  simp; omega
def crlf (l : T) : Nat := match l with
  | 13 :: 10 :: _ => 2
  | 13 :: _ => 1
  | 10 :: _ => 1
  | _ => 0
structure Itm where
  ty : Nat
  low : Nat
  high : Nat
  segs : List (Nat × Nat)
  str : Bool
  err : Bool
inductive St where
  | main | done | left | comment | right | inside | pval | ident | endsc | intro | json | org
structure Lx where
  pos : Nat
  start : Nat
  md : Bool
  inl : Bool
  name : ByteArray
  closing : Nat
  step : Nat
  par : Nat
  op : List (ByteArray × Bool)
  org : Bool
  chk : Bool
  items : List Itm
abbrev Res := Lx × Option St
def oset (k : ByteArray) (v : Bool) : List (ByteArray × Bool) → List (ByteArray × Bool)
  | [] => [(k, v)]
  | (a, u) :: r => if a = k then (k, v) :: r else (a, u) :: oset k v r
def oget (k : ByteArray) : List (ByteArray × Bool) → Bool
  | [] => false
  | (a, u) :: r => if a = k then u else oget k r
def ba (l : T) : ByteArray := ⟨l.toArray⟩
def cut (s : T) (a b : Nat) : T := (s.drop a).take (b - a)
def mk (ty a b : Nat) : Itm := ⟨ty, a, b, [], false, false⟩
def txts (s : T) (a b : Nat) : List Itm :=
  let t := (cut s a b).reverse
  let k := (t.takeWhile isBl).length
  if t ≠ [] ∧ k = t.length then [mk 17 a b]
  else if 0 < k ∧ (t.drop k).head? = some 10 then [mk 18 a (b - k), mk 17 (b - k) b]
  else [mk 18 a b]
def emit (t : Nat) (x : Lx) : Lx := { x with items := x.items ++ [mk t x.start x.pos], start := x.pos }
def emitS (t : Nat) (x : Lx) : Lx := { x with items := x.items ++ [{ mk t x.start x.pos with str := true }], start := x.pos }
def emitT (s : T) (x : Lx) : Lx := { x with items := x.items ++ txts s x.start x.pos, start := x.pos }
def errI (x : Lx) : Lx := { x with items := x.items ++ [{ mk 0 x.start x.pos with err := true }] }
def fail (x : Lx) : Res := (errI x, none)
def ign (x : Lx) : Lx := { x with start := x.pos }
def mv (n : Nat) (x : Lx) : Lx := { x with pos := x.pos + n }
def lsc : T := [123, 123]
def lno : T := [123, 123, 60]
def lmd : T := [123, 123, 37]
def rd (md : Bool) : T := if md then [37, 125, 125] else [62, 125, 125]
def divr (org : Bool) : T := if org then [35, 32, 109, 111, 114, 101] else [60, 33, 45, 45, 109, 111, 114, 101, 45, 45, 62]
def alh (E : Env) (r : Int) : Bool := E.al r || r == 45
def inlOk (E : Env) (b : T) (name : ByteArray) : Bool :=
  (b.drop (spN b)).head? == some 47 && (name.data.toList ++ [32]).isPrefixOf (E.tr (b.drop (spN b + 1)))
def mn : Option Nat → Option Nat → Option Nat
  | none, b => b
  | a, none => a
  | some a, some b => some (min a b)
def dvOn (dv : Bool) (x : Lx) : Bool := dv && !x.chk
def found (s : T) (dv : Bool) (x : Lx) : Option Nat := mn (idx lsc (s.drop x.pos)) (if dvOn dv x then idx (divr x.org) (s.drop x.pos) else none)
def piece (E : Env) (s : T) (dv : Bool) (x : Lx) : Res :=
  let r := s.drop x.pos
  if lmd.isPrefixOf r || lno.isPrefixOf r then
    if x.inl && !inlOk E (r.drop 3) x.name then ({ errI x with pos := s.length }, some .done)
    else ({ x with md := lmd.isPrefixOf r }, some .left)
  else if dvOn dv x && (divr x.org).isPrefixOf r then
    (emit 2 { x with chk := true, pos := x.pos + (divr x.org).length + spN (r.drop (divr x.org).length) }, some .main)
  else (mv 1 x, some .main)
def main (E : Env) (s : T) (dv : Bool) (x : Lx) : Res :=
  if s.length ≤ x.pos then (x, some .done)
  else match found s dv x with
    | none => ({ x with pos := s.length }, some .done)
    | some q => piece E s dv (if x.start < x.pos + q then emitT s (mv q x) else mv q x)
def done (s : T) (x : Lx) : Res := (emit 1 (if x.start < x.pos then emitT s x else x), none)
def left (s : T) (x : Lx) : Res :=
  if [47, 42].isPrefixOf (s.drop (x.pos + 3)) then (mv 3 x, some .comment)
  else ({ emit (if x.md then 10 else 8) (mv 3 x) with step := 0, par := 0 }, some .inside)
def comment (s : T) (x : Lx) : Res := match idx ([42, 47] ++ rd x.md) (s.drop x.pos) with
  | none => fail x
  | some q => if q ≤ 1 then fail x else
    (emitT s (mv 3 (ign (mv 2 (emitT s (mv (q - 2) (ign (mv 2 (emitT s x)))))))), some .main)
def right (x : Lx) : Res := (emit (if x.md then 11 else 9) { mv 3 x with closing := 0 }, some .main)
def pval (s : T) (x : Lx) : Res := (emit 16 (mv (toSpN (s.drop x.pos)) x), some .inside)
def qLoop (alw : Bool) : T → Nat → Option Nat → Bool → Bool → Bool → Bool × Nat × Option Nat × Bool
  | [], n, st, _, esc, _ => (true, n, st, esc)
  | c :: r, n, st, oq, esc, est =>
    if c = 92 then
      if r.head? = some 34 then (if oq then (if alw then qLoop alw r (n + 1) st oq true true else (false, n, st, esc)) else qLoop alw r (n + 1) st oq esc est)
      else if r.head? = some 96 then (true, n + 1, st, esc)
      else qLoop alw r (n + 1) st oq esc est
    else if c = 10 then (true, n + 1, st, esc)
    else if c = 34 then (if est then qLoop alw r (n + 1) st oq esc false else if oq then (false, n, st, esc) else qLoop alw r (n + 1) (some (n + 1)) true esc est)
    else qLoop alw r (n + 1) st oq esc est
def segsL : T → Nat → Nat → List (Nat × Nat)
  | [], k, i => if k < i then [(k, i)] else []
  | c :: r, k, i => if c = 92 then (if k < i then (k, i) :: segsL r (i + 1) (i + 1) else segsL r (i + 1) (i + 1)) else segsL r k (i + 1)
def stAt (x : Lx) : Option Nat → Nat
  | none => x.start
  | some k => x.pos + k
def emitE (t : Nat) (s : T) (x : Lx) : Lx :=
  if segsL (cut s x.start x.pos) x.start x.start = [] then ign x
  else { x with items := x.items ++ [⟨t, 0, 0, segsL (cut s x.start x.pos) x.start x.start, false, false⟩], start := x.pos }
def qEnd (s : T) (x : Lx) : Lx := match s.drop x.pos with
  | 92 :: 34 :: _ => ign (mv 2 x)
  | 92 :: _ => mv 1 x
  | 34 :: _ => ign (mv 1 x)
  | _ => x
def quoted (s : T) (alw : Bool) (ty : Nat) (x : Lx) : Res :=
  let q := qLoop alw (s.drop x.pos) 0 none false false false
  let y := { x with pos := x.pos + q.2.1, start := stAt x q.2.2.1 }
  if q.1 then fail y
  else (qEnd s (if q.2.2.2 then emitE ty s y else emitS ty y), some .inside)
def rLoop : T → Nat → Option Nat → Bool → Bool × Nat × Option Nat
  | [], n, st, _ => (true, n, st)
  | c :: r, n, st, op => if c = 96 then (if op then (false, n, st) else rLoop r (n + 1) (some (n + 1)) true) else rLoop r (n + 1) st op
def raw (s : T) (ty : Nat) (x : Lx) : Res :=
  let q := rLoop (s.drop x.pos) 0 none false
  let y := { x with pos := x.pos + q.2.1, start := stAt x q.2.2 }
  if q.1 then fail y else (ign (mv 1 (emitS ty y)), some .inside)
def parR (E : Env) (r : Int) : Bool := alh E r || r == 46
def param (E : Env) (s : T) (esc : Bool) (x : Lx) : Res :=
  let l := s.drop x.pos
  if rn l = 34 ∨ (rn l = 96 ∧ esc = false) then
    if x.par = 2 then fail (mv 1 x)
    else if rn l = 34 then quoted s (!esc) 15 { x with par := 1 } else raw s 15 { x with par := 1 }
  else if rn l = 96 then fail (mv 1 x)
  else
    let n := runN (parR E) l
    let eq := decide (0 < n) && decide (rn (l.drop n) = 61)
    let y := mv n x
    if x.par = 0 then (emit 15 { y with par := if eq then 2 else 1 }, some .inside)
    else if eq = true ∧ x.par = 1 then fail y
    else if eq = false ∧ x.par = 2 then fail y
    else (emit 15 y, some .inside)
def idR (E : Env) (r : Int) : Bool := alh E r || r == 47
def inlT : T := [105, 110, 108, 105, 110, 101, 32]
def idLoop (E : Env) (l : T) (n : Nat) (inl : Bool) : Bool × Nat × Bool :=
  if h : l ≠ [] then
    if idR E (rn l) then idLoop E (l.drop (wd l)) (n + wd l) inl
    else if rn l = 46 then (if inlT.isPrefixOf (l.drop (wd l)) then idLoop E (l.drop (wd l)) (n + wd l) true else (true, n + wd l, false))
    else (false, n, inl)
  else (false, n, inl)
termination_by l.length
decreasing_by all_goals (have := wd_pos h; have : 0 < l.length := List.length_pos_iff.2 h; simp; omega)
def ident (E : Env) (s : T) (x : Lx) : Res :=
  let q := idLoop E (s.drop x.pos) 0 x.inl
  let y := { x with pos := x.pos + q.2.1, inl := q.2.2 }
  if q.1 then fail y
  else
    let w := ba (cut s y.start y.pos)
    if 0 < x.closing ∧ oget w x.op = false then fail y
    else (emit (if y.inl then 14 else 13) { y with closing := 0, name := w, step := x.step + 1, op := oset w true (if 0 < x.closing then oset w false x.op else x.op) }, some (if 0 < x.closing then .endsc else .inside))
def endsc (s : T) (x : Lx) : Res :=
  let y := { x with inl := false }
  if (rd x.md).isPrefixOf (s.drop x.pos) then (y, some .right)
  else match s.drop x.pos with
    | [] => fail y
    | c :: r => if isSp c.toNat then (ign (mv 1 y), some .endsc) else fail (mv (wd (c :: r)) y)
def inside (E : Env) (s : T) (x : Lx) : Res :=
  let l := s.drop x.pos
  if (rd x.md).isPrefixOf l then (x, some .right)
  else if l = [] then fail x
  else if isSp (rn l).toNat then (ign (mv 1 x), some .inside)
  else if rn l = 61 then
    let y := ign (mv (1 + spN (l.drop 1)) x)
    let p := rn (s.drop y.pos)
    if p = 34 ∨ p = 92 then quoted s (p != 92) 16 y
    else if p = 96 then raw s 16 y
    else (y, some .pval)
  else if rn l = 47 then
    if x.name = ⟨#[]⟩ then fail (mv 1 x)
    else (emit 12 { mv 1 x with closing := x.closing + 1, inl := false, step := 0 }, some .inside)
  else if rn l = 92 then
    let y := ign (mv 1 x)
    if rn (s.drop y.pos) = 34 ∨ rn (s.drop y.pos) = 96 then param E s true y else (y, some .inside)
  else if 0 < x.step ∧ (alh E (rn l) = true ∨ rn l = 34 ∨ rn l = 96) then param E s false x
  else if E.al (rn l) then (x, some .ident)
  else fail (mv (wd l) x)
def fr (d : T) : T → Nat → Option Nat
  | [], _ => none
  | c :: r, n => if (c = 13 ∨ c = 10) ∧ d.isPrefixOf r = true then some (n + 1) else fr d r (n + 1)
def fr0 (d : T) (l : T) (was : Bool) : Option Nat := if was = true ∧ d.isPrefixOf l = true then some 0 else fr d l 0
def fence (s : T) (c : UInt8) (ty : Nat) (x : Lx) : Res :=
  match s.drop x.pos with
  | a :: b :: r => if a = c then (if b = c then
      let y := ign (mv (2 + crlf r) x)
      match fr0 [c, c, c] (s.drop y.pos) (decide (0 < crlf r)) with
      | none => fail { y with pos := s.length }
      | some n => (ign (mv (3 + crlf (s.drop (y.pos + n + 3))) (emit ty (mv n y))), some .main)
    else fail (mv (1 + wd (b :: r)) x)) else fail (mv (wd (a :: b :: r)) x)
  | [a] => if a = c then fail (mv 1 x) else fail (mv (wd [a]) x)
  | [] => fail x
def jsonL : T → Nat → Bool → Nat → Option Nat
  | [], _, _, _ => none
  | 92 :: _ :: r, n, q, lv => jsonL r (n + 2) q lv
  | c :: r, n, q, lv =>
    if c = 123 then jsonL r (n + 1) q (if q then lv else lv + 1)
    else if c = 125 then (if q then jsonL r (n + 1) q lv else if lv ≤ 1 then some (n + 1) else jsonL r (n + 1) q (lv - 1))
    else if c = 34 then jsonL r (n + 1) (!q) lv
    else jsonL r (n + 1) q lv
def json (s : T) (x : Lx) : Res := match jsonL (s.drop x.pos) 0 false 0 with
  | none => fail { x with pos := s.length }
  | some n => (emit 5 (mv (n + crlf (s.drop (x.pos + n))) x), some .main)
def orgL : T → Nat → Nat
  | [], n => n
  | c :: r, n => if c = 10 ∧ [35, 43].isPrefixOf r = false then n + 1 else orgL r (n + 1)
def org (s : T) (x : Lx) : Res :=
  if [35, 43].isPrefixOf (s.drop x.pos) then (emit 6 { mv (orgL (s.drop x.pos) 0) x with org := true }, some .main)
  else (x, some .main)
def intro (s : T) (x : Lx) : Res :=
  let y := mv (spN (s.drop x.pos)) x
  match s.drop y.pos with
  | [] => (y, some .main)
  | c :: r => if c = 43 then fence s 43 4 (mv 1 y) else if c = 45 then fence s 45 3 (mv 1 y) else if c = 123 then (y, some .json) else if c = 35 then (y, some .org)
    else (mv (wd (c :: r)) y, some .main)
def step (E : Env) (s : T) (dv : Bool) : St → Lx → Res
  | .main, x => main E s dv x
  | .done, x => done s x
  | .left, x => left s x
  | .comment, x => comment s x
  | .right, x => right x
  | .inside, x => inside E s x
  | .pval, x => pval s x
  | .ident, x => ident E s x
  | .endsc, x => endsc s x
  | .intro, x => intro s x
  | .json, x => json s x
  | .org, x => org s x
inductive Runs (E : Env) (s : T) (dv : Bool) : St → Lx → List Itm → Prop
  | stop {st x y} : step E s dv st x = (y, none) → Runs E s dv st x y.items
  | go {st x st' y l} : step E s dv st x = (y, some st') → Runs E s dv st' y l → Runs E s dv st x l
theorem Runs.det {E : Env} {s : T} {dv : Bool} {st : St} {x : Lx} {l k : List Itm} (h : Runs E s dv st x l) (h' : Runs E s dv st x k) : l = k := by
  induction h generalizing k with
  | stop h1 =>
    cases h' with
    | stop h2 => rw [h1] at h2; cases h2; rfl
    | go h2 _ => rw [h1] at h2; cases h2
  | go h1 _ ih =>
    cases h' with
    | stop h2 => rw [h1] at h2; cases h2
    | go h2 h3 => rw [h1] at h2; cases h2; exact ih h3
def lx0 : Lx := ⟨0, 0, false, false, ⟨#[]⟩, 0, 0, 0, [], false, false, []⟩
def Parses (E : Env) (s : T) (front dv : Bool) (l : List Itm) : Prop := Runs E s dv (if front then .intro else .main) lx0 l
end Go.Proofs.YtkehggbmpdacpabGreatDoor.Lex0
namespace Go.Proofs
open Go.Shelf
def Tryz.lays198_ren : Go.Shelf.Ren := ⟨fun | 198 => 166 | 261 => 127 | 311 => 143 | 312 => 144 | n => n, fun | 21 => 21 | 4 => 4 | 141 => 144 | 0 => 0 | 196 => 160 | 193 => 157 | 3 => 3 | 51 => 142 | 198 => 162 | 49 => 57 | 194 => 158 | 201 => 165 | 226 => 170 | 46 => 145 | 227 => 171 | n => n, fun | 5 => 7 | n => n⟩
theorem Tryz.lays198 : Go.Proofs.Lays.n198 Tryz.prog Tryz.lays198_ren := {
  mixed := by kernel_rfl
  f198 := Tryz.func166.trans (congrArg some (by kernel_rfl))
  f261 := Tryz.func127.trans (congrArg some (by kernel_rfl))
  f311 := Tryz.func143.trans (congrArg some (by kernel_rfl))
  f312 := Tryz.func144.trans (congrArg some (by kernel_rfl))
  t0 := Tryz.underlying0
  a0 := Tryz.isAgg0
  z0 := Tryz.sizeOf0
  v0 := Tryz.zeroValue0
  t3 := Tryz.underlying3
  a3 := Tryz.isAgg3
  z3 := Tryz.sizeOf3
  v3 := Tryz.zeroValue3
  t4 := Tryz.underlying4
  a4 := Tryz.isAgg4
  z4 := Tryz.sizeOf4
  v4 := Tryz.zeroValue4
  t21 := Tryz.underlying21
  a21 := Tryz.isAgg21
  z21 := Tryz.sizeOf21
  v21 := Tryz.zeroValue21
  t46 := Tryz.underlying145
  a46 := Tryz.isAgg145
  z46 := Tryz.sizeOf145
  v46 := Tryz.zeroValue145
  t49 := Tryz.underlying57
  a49 := Tryz.isAgg57
  z49 := Tryz.sizeOf57
  v49 := Tryz.zeroValue57
  t51 := Tryz.underlying142
  a51 := Tryz.isAgg142
  z51 := Tryz.sizeOf142
  v51 := Tryz.zeroValue142
  t141 := Tryz.underlying144
  a141 := Tryz.isAgg144
  z141 := Tryz.sizeOf144
  v141 := Tryz.zeroValue144
  t193 := Tryz.underlying157
  a193 := Tryz.isAgg157
  z193 := Tryz.sizeOf157
  v193 := Tryz.zeroValue157
  t194 := Tryz.underlying158
  a194 := Tryz.isAgg158
  z194 := Tryz.sizeOf158
  v194 := Tryz.zeroValue158
  t196 := Tryz.underlying160
  a196 := Tryz.isAgg160
  z196 := Tryz.sizeOf160
  v196 := Tryz.zeroValue160
  t198 := Tryz.underlying162
  a198 := Tryz.isAgg162
  z198 := Tryz.sizeOf162
  v198 := Tryz.zeroValue162
  t201 := Tryz.underlying165
  a201 := Tryz.isAgg165
  z201 := Tryz.sizeOf165
  v201 := Tryz.zeroValue165
  t226 := Tryz.underlying170
  a226 := Tryz.isAgg170
  z226 := Tryz.sizeOf170
  v226 := Tryz.zeroValue170
  t227 := Tryz.underlying171
  a227 := Tryz.isAgg171
  z227 := Tryz.sizeOf171
  v227 := Tryz.zeroValue171
  g5 := by kernel_rfl }
def Tryz.lays199_ren : Go.Shelf.Ren := ⟨fun | 199 => 105 | 261 => 127 | 311 => 143 | 312 => 144 | n => n, fun | 21 => 21 | 4 => 4 | 51 => 142 | 141 => 144 | 0 => 0 | 196 => 160 | 193 => 157 | 3 => 3 | 198 => 162 | 49 => 57 | 194 => 158 | 201 => 165 | 226 => 170 | 46 => 145 | 227 => 171 | n => n, fun | 6 => 1 | n => n⟩
theorem Tryz.lays199 : Go.Proofs.Lays.n199 Tryz.prog Tryz.lays199_ren := {
  mixed := by kernel_rfl
  f199 := Tryz.func105.trans (congrArg some (by kernel_rfl))
  f261 := Tryz.func127.trans (congrArg some (by kernel_rfl))
  f311 := Tryz.func143.trans (congrArg some (by kernel_rfl))
  f312 := Tryz.func144.trans (congrArg some (by kernel_rfl))
  t0 := Tryz.underlying0
  a0 := Tryz.isAgg0
  z0 := Tryz.sizeOf0
  v0 := Tryz.zeroValue0
  t3 := Tryz.underlying3
  a3 := Tryz.isAgg3
  z3 := Tryz.sizeOf3
  v3 := Tryz.zeroValue3
  t4 := Tryz.underlying4
  a4 := Tryz.isAgg4
  z4 := Tryz.sizeOf4
  v4 := Tryz.zeroValue4
  t21 := Tryz.underlying21
  a21 := Tryz.isAgg21
  z21 := Tryz.sizeOf21
  v21 := Tryz.zeroValue21
  t46 := Tryz.underlying145
  a46 := Tryz.isAgg145
  z46 := Tryz.sizeOf145
  v46 := Tryz.zeroValue145
  t49 := Tryz.underlying57
  a49 := Tryz.isAgg57
  z49 := Tryz.sizeOf57
  v49 := Tryz.zeroValue57
  t51 := Tryz.underlying142
  a51 := Tryz.isAgg142
  z51 := Tryz.sizeOf142
  v51 := Tryz.zeroValue142
  t141 := Tryz.underlying144
  a141 := Tryz.isAgg144
  z141 := Tryz.sizeOf144
  v141 := Tryz.zeroValue144
  t193 := Tryz.underlying157
  a193 := Tryz.isAgg157
  z193 := Tryz.sizeOf157
  v193 := Tryz.zeroValue157
  t194 := Tryz.underlying158
  a194 := Tryz.isAgg158
  z194 := Tryz.sizeOf158
  v194 := Tryz.zeroValue158
  t196 := Tryz.underlying160
  a196 := Tryz.isAgg160
  z196 := Tryz.sizeOf160
  v196 := Tryz.zeroValue160
  t198 := Tryz.underlying162
  a198 := Tryz.isAgg162
  z198 := Tryz.sizeOf162
  v198 := Tryz.zeroValue162
  t201 := Tryz.underlying165
  a201 := Tryz.isAgg165
  z201 := Tryz.sizeOf165
  v201 := Tryz.zeroValue165
  t226 := Tryz.underlying170
  a226 := Tryz.isAgg170
  z226 := Tryz.sizeOf170
  v226 := Tryz.zeroValue170
  t227 := Tryz.underlying171
  a227 := Tryz.isAgg171
  z227 := Tryz.sizeOf171
  v227 := Tryz.zeroValue171
  g6 := by kernel_rfl }
def Tryz.lays200_ren : Go.Shelf.Ren := ⟨fun | 200 => 165 | 261 => 127 | 311 => 143 | 312 => 144 | n => n, fun | 21 => 21 | 4 => 4 | 51 => 142 | 5 => 5 | 119 => 129 | 0 => 0 | 141 => 144 | 196 => 160 | 193 => 157 | 3 => 3 | 198 => 162 | 49 => 57 | 194 => 158 | 201 => 165 | 226 => 170 | 46 => 145 | 227 => 171 | n => n, fun | 7 => 5 | 8 => 6 | n => n⟩
theorem Tryz.lays200 : Go.Proofs.Lays.n200 Tryz.prog Tryz.lays200_ren := {
  mixed := by kernel_rfl
  f200 := Tryz.func165.trans (congrArg some (by kernel_rfl))
  f261 := Tryz.func127.trans (congrArg some (by kernel_rfl))
  f311 := Tryz.func143.trans (congrArg some (by kernel_rfl))
  f312 := Tryz.func144.trans (congrArg some (by kernel_rfl))
  t0 := Tryz.underlying0
  a0 := Tryz.isAgg0
  z0 := Tryz.sizeOf0
  v0 := Tryz.zeroValue0
  t3 := Tryz.underlying3
  a3 := Tryz.isAgg3
  z3 := Tryz.sizeOf3
  v3 := Tryz.zeroValue3
  t4 := Tryz.underlying4
  a4 := Tryz.isAgg4
  z4 := Tryz.sizeOf4
  v4 := Tryz.zeroValue4
  t5 := Tryz.underlying5
  a5 := Tryz.isAgg5
  z5 := Tryz.sizeOf5
  v5 := Tryz.zeroValue5
  t21 := Tryz.underlying21
  a21 := Tryz.isAgg21
  z21 := Tryz.sizeOf21
  v21 := Tryz.zeroValue21
  t46 := Tryz.underlying145
  a46 := Tryz.isAgg145
  z46 := Tryz.sizeOf145
  v46 := Tryz.zeroValue145
  t49 := Tryz.underlying57
  a49 := Tryz.isAgg57
  z49 := Tryz.sizeOf57
  v49 := Tryz.zeroValue57
  t51 := Tryz.underlying142
  a51 := Tryz.isAgg142
  z51 := Tryz.sizeOf142
  v51 := Tryz.zeroValue142
  t119 := Tryz.underlying129
  a119 := Tryz.isAgg129
  z119 := Tryz.sizeOf129
  t141 := Tryz.underlying144
  a141 := Tryz.isAgg144
  z141 := Tryz.sizeOf144
  v141 := Tryz.zeroValue144
  t193 := Tryz.underlying157
  a193 := Tryz.isAgg157
  z193 := Tryz.sizeOf157
  v193 := Tryz.zeroValue157
  t194 := Tryz.underlying158
  a194 := Tryz.isAgg158
  z194 := Tryz.sizeOf158
  v194 := Tryz.zeroValue158
  t196 := Tryz.underlying160
  a196 := Tryz.isAgg160
  z196 := Tryz.sizeOf160
  v196 := Tryz.zeroValue160
  t198 := Tryz.underlying162
  a198 := Tryz.isAgg162
  z198 := Tryz.sizeOf162
  v198 := Tryz.zeroValue162
  t201 := Tryz.underlying165
  a201 := Tryz.isAgg165
  z201 := Tryz.sizeOf165
  v201 := Tryz.zeroValue165
  t226 := Tryz.underlying170
  a226 := Tryz.isAgg170
  z226 := Tryz.sizeOf170
  v226 := Tryz.zeroValue170
  t227 := Tryz.underlying171
  a227 := Tryz.isAgg171
  z227 := Tryz.sizeOf171
  v227 := Tryz.zeroValue171
  g7 := by kernel_rfl
  g8 := by kernel_rfl }
open Go.RowKit Go.Lib in
theorem Tryz.unicode_IsSpace_any (r : Int) (w : World) (hlo : -2147483648 ≤ r) (hhi : r ≤ 2147483647) (hW : Lib.WhiteTab 1 w) :
    Calls Tryz.prog 105 #[.int .i32 r] w fun e w' => e = .returned (.bool (Lib.isSpaceZ r)) ∧ Below w.heap.size w w' := Any.unicode_IsSpace_any Tryz.lays199 r w hlo hhi hW
open Go.RowKit Go.Lib in
theorem Tryz.unicode_IsLetter_all (r : Int) (w : World) (hlo : -2147483648 ≤ r) (hhi : r ≤ 2147483647) (htab : Lib.TabIs Tryz.prog w "unicode.properties" .u8 Lib.propertiesTab) (hV : RVar 6 letterT w) :
    Calls Tryz.prog 165 #[.int .i32 r] w fun e w' => e = .returned (.bool (isLetterU r)) ∧ Below w.heap.size w w' := Any.unicode_IsLetter_all Tryz.lays200 (by kernel_rfl) r w hlo hhi htab hV
open Go.RowKit Go.Lib in
theorem Tryz.unicode_IsDigit_all (r : Int) (w : World) (hlo : -2147483648 ≤ r) (hhi : r ≤ 2147483647) (hV : RVar 7 digitT w) :
    Calls Tryz.prog 166 #[.int .i32 r] w fun e w' => e = .returned (.bool (isDigitU r)) ∧ Below w.heap.size w w' := Any.unicode_IsDigit_all Tryz.lays198 r w hlo hhi hV
def Tryz.lays7n32_ren : Go.Shelf.Ren := ⟨fun | 32 => 89 | 49 => 106 | n => n, fun | 30 => 62 | 21 => 21 | 3 => 3 | 0 => 0 | 5 => 5 | 4 => 4 | 33 => 106 | 66 => 129 | 25 => 145 | 69 => 148 | 68 => 147 | n => n, fun | 2 => 2 | 3 => 3 | n => n⟩
theorem Tryz.lays7n32 : Go.Proofs.Lays7.n32 Tryz.prog Tryz.lays7n32_ren := {
  mixed := by kernel_rfl
  f32 := Tryz.func89.trans (congrArg some (by kernel_rfl))
  f49 := Tryz.func106.trans (congrArg some (by kernel_rfl))
  t0 := Tryz.underlying0
  a0 := Tryz.isAgg0
  z0 := Tryz.sizeOf0
  v0 := Tryz.zeroValue0
  i0 := by kernel_rfl
  t3 := Tryz.underlying3
  a3 := Tryz.isAgg3
  z3 := Tryz.sizeOf3
  v3 := Tryz.zeroValue3
  i3 := by kernel_rfl
  t4 := Tryz.underlying4
  a4 := Tryz.isAgg4
  z4 := Tryz.sizeOf4
  v4 := Tryz.zeroValue4
  i4 := by kernel_rfl
  t5 := Tryz.underlying5
  a5 := Tryz.isAgg5
  z5 := Tryz.sizeOf5
  v5 := Tryz.zeroValue5
  i5 := by kernel_rfl
  t21 := Tryz.underlying21
  a21 := Tryz.isAgg21
  z21 := Tryz.sizeOf21
  v21 := Tryz.zeroValue21
  i21 := by kernel_rfl
  t25 := Tryz.underlying145
  a25 := Tryz.isAgg145
  z25 := Tryz.sizeOf145
  v25 := Tryz.zeroValue145
  i25 := by kernel_rfl
  t30 := Tryz.underlying62
  a30 := Tryz.isAgg62
  z30 := Tryz.sizeOf62
  v30 := Tryz.zeroValue62
  i30 := by kernel_rfl
  t33 := Tryz.underlying106
  a33 := Tryz.isAgg106
  z33 := Tryz.sizeOf106
  v33 := Tryz.zeroValue106
  i33 := by kernel_rfl
  t66 := Tryz.underlying129
  a66 := Tryz.isAgg129
  z66 := Tryz.sizeOf129
  t68 := Tryz.underlying147
  a68 := Tryz.isAgg147
  z68 := Tryz.sizeOf147
  v68 := Tryz.zeroValue147
  i68 := by kernel_rfl
  t69 := Tryz.underlying148
  a69 := Tryz.isAgg148
  z69 := Tryz.sizeOf148
  v69 := Tryz.zeroValue148
  i69 := by kernel_rfl
  g2 := by kernel_rfl
  g3 := by kernel_rfl }
def Tryz.lays7n55_ren : Go.Shelf.Ren := ⟨fun | 55 => 142 | 32 => 89 | 49 => 106 | n => n, fun | 30 => 62 | 48 => 99 | 4 => 4 | 3 => 3 | 33 => 106 | 21 => 21 | 0 => 0 | 5 => 5 | 66 => 129 | 25 => 145 | 69 => 148 | 68 => 147 | n => n, fun | 2 => 2 | 3 => 3 | n => n⟩
theorem Tryz.lays7n55 : Go.Proofs.Lays7.n55 Tryz.prog Tryz.lays7n55_ren := {
  mixed := by kernel_rfl
  f32 := Tryz.func89.trans (congrArg some (by kernel_rfl))
  f49 := Tryz.func106.trans (congrArg some (by kernel_rfl))
  f55 := Tryz.func142.trans (congrArg some (by kernel_rfl))
  t0 := Tryz.underlying0
  a0 := Tryz.isAgg0
  z0 := Tryz.sizeOf0
  v0 := Tryz.zeroValue0
  i0 := by kernel_rfl
  t3 := Tryz.underlying3
  a3 := Tryz.isAgg3
  z3 := Tryz.sizeOf3
  v3 := Tryz.zeroValue3
  i3 := by kernel_rfl
  t4 := Tryz.underlying4
  a4 := Tryz.isAgg4
  z4 := Tryz.sizeOf4
  v4 := Tryz.zeroValue4
  i4 := by kernel_rfl
  t5 := Tryz.underlying5
  a5 := Tryz.isAgg5
  z5 := Tryz.sizeOf5
  v5 := Tryz.zeroValue5
  i5 := by kernel_rfl
  t21 := Tryz.underlying21
  a21 := Tryz.isAgg21
  z21 := Tryz.sizeOf21
  v21 := Tryz.zeroValue21
  i21 := by kernel_rfl
  t25 := Tryz.underlying145
  a25 := Tryz.isAgg145
  z25 := Tryz.sizeOf145
  v25 := Tryz.zeroValue145
  i25 := by kernel_rfl
  t30 := Tryz.underlying62
  a30 := Tryz.isAgg62
  z30 := Tryz.sizeOf62
  v30 := Tryz.zeroValue62
  i30 := by kernel_rfl
  t33 := Tryz.underlying106
  a33 := Tryz.isAgg106
  z33 := Tryz.sizeOf106
  v33 := Tryz.zeroValue106
  i33 := by kernel_rfl
  t48 := Tryz.underlying99
  a48 := Tryz.isAgg99
  z48 := Tryz.sizeOf99
  v48 := Tryz.zeroValue99
  i48 := by kernel_rfl
  t66 := Tryz.underlying129
  a66 := Tryz.isAgg129
  z66 := Tryz.sizeOf129
  t68 := Tryz.underlying147
  a68 := Tryz.isAgg147
  z68 := Tryz.sizeOf147
  v68 := Tryz.zeroValue147
  i68 := by kernel_rfl
  t69 := Tryz.underlying148
  a69 := Tryz.isAgg148
  z69 := Tryz.sizeOf148
  v69 := Tryz.zeroValue148
  i69 := by kernel_rfl
  g2 := by kernel_rfl
  g3 := by kernel_rfl }
def Tryz.lays7n42_ren : Go.Shelf.Ren := ⟨fun | 42 => 104 | 43 => 126 | 44 => 125 | 55 => 142 | 56 => 141 | 32 => 89 | 33 => 157 | 49 => 106 | 50 => 169 | n => n, fun | 30 => 62 | 48 => 99 | 4 => 4 | 3 => 3 | 0 => 0 | 5 => 5 | 33 => 106 | 21 => 21 | 66 => 129 | 25 => 145 | 69 => 148 | 68 => 147 | n => n, fun | 2 => 2 | 3 => 3 | n => n⟩
theorem Tryz.lays7n42 : Go.Proofs.Lays7.n42 Tryz.prog Tryz.lays7n42_ren := {
  mixed := by kernel_rfl
  f32 := Tryz.func89.trans (congrArg some (by kernel_rfl))
  f33 := Tryz.func157.trans (congrArg some (by kernel_rfl))
  f42 := Tryz.func104.trans (congrArg some (by kernel_rfl))
  f43 := Tryz.func126.trans (congrArg some (by kernel_rfl))
  f44 := Tryz.func125.trans (congrArg some (by kernel_rfl))
  f49 := Tryz.func106.trans (congrArg some (by kernel_rfl))
  f50 := Tryz.func169.trans (congrArg some (by kernel_rfl))
  f55 := Tryz.func142.trans (congrArg some (by kernel_rfl))
  f56 := Tryz.func141.trans (congrArg some (by kernel_rfl))
  t0 := Tryz.underlying0
  a0 := Tryz.isAgg0
  z0 := Tryz.sizeOf0
  v0 := Tryz.zeroValue0
  i0 := by kernel_rfl
  t3 := Tryz.underlying3
  a3 := Tryz.isAgg3
  z3 := Tryz.sizeOf3
  v3 := Tryz.zeroValue3
  i3 := by kernel_rfl
  t4 := Tryz.underlying4
  a4 := Tryz.isAgg4
  z4 := Tryz.sizeOf4
  v4 := Tryz.zeroValue4
  i4 := by kernel_rfl
  t5 := Tryz.underlying5
  a5 := Tryz.isAgg5
  z5 := Tryz.sizeOf5
  v5 := Tryz.zeroValue5
  i5 := by kernel_rfl
  t21 := Tryz.underlying21
  a21 := Tryz.isAgg21
  z21 := Tryz.sizeOf21
  v21 := Tryz.zeroValue21
  i21 := by kernel_rfl
  t25 := Tryz.underlying145
  a25 := Tryz.isAgg145
  z25 := Tryz.sizeOf145
  v25 := Tryz.zeroValue145
  i25 := by kernel_rfl
  t30 := Tryz.underlying62
  a30 := Tryz.isAgg62
  z30 := Tryz.sizeOf62
  v30 := Tryz.zeroValue62
  i30 := by kernel_rfl
  t33 := Tryz.underlying106
  a33 := Tryz.isAgg106
  z33 := Tryz.sizeOf106
  v33 := Tryz.zeroValue106
  i33 := by kernel_rfl
  t48 := Tryz.underlying99
  a48 := Tryz.isAgg99
  z48 := Tryz.sizeOf99
  v48 := Tryz.zeroValue99
  i48 := by kernel_rfl
  t66 := Tryz.underlying129
  a66 := Tryz.isAgg129
  z66 := Tryz.sizeOf129
  t68 := Tryz.underlying147
  a68 := Tryz.isAgg147
  z68 := Tryz.sizeOf147
  v68 := Tryz.zeroValue147
  i68 := by kernel_rfl
  t69 := Tryz.underlying148
  a69 := Tryz.isAgg148
  z69 := Tryz.sizeOf148
  v69 := Tryz.zeroValue148
  i69 := by kernel_rfl
  g2 := by kernel_rfl
  g3 := by kernel_rfl }
end Go.Proofs
namespace Go.Proofs.YtkehggbmpdacpabGreatDoor.Pg
open Go.Rx hiding bt
open Go.RowKit Go.Proofs.YtkehggbmpdacpabGreatDoor.Dec0 Go.Proofs.YtkehggbmpdacpabGreatDoor.Lex0
def Byt (w : World) (v : Value) (l : T) : Prop := ∃ b o c, v = .slice (some ⟨b, o, none⟩) l.length c ∧ l.length ≤ c ∧ ∀ (j : Nat) (x : UInt8), l[j]? = some x → w.cell? ⟨b, o + j, none⟩ = some (.int .u8 x.toNat)
theorem Byt.below {w w' : World} {v : Value} {l : T} {B : Nat} (h : Byt w v l) (hb : Below B w w') (hB : w.heap.size ≤ B) : Byt w' v l := by
  obtain ⟨b, o, c, e, hc, h⟩ := h
  refine ⟨b, o, c, e, hc, fun j x hx => ?_⟩
  have h1 := h j x hx
  have hlt : b < w.heap.size := by
    rcases Nat.lt_or_ge b w.heap.size with h | h
    · exact h
    · simp [World.cell?, Array.getElem?_eq_none h] at h1
  unfold World.cell? at h1 ⊢
  rw [hb.block b (by omega)]
  exact h1
theorem Byt.cells {w : World} {v : Value} {l : T} {g cap o : Nat} {c : List Value} {k : Bk} {m : Mem} (hw : Has m w) (hm : (g, c, k) ∈ m) (hk : k = Bk.r 5 ∨ k = Bk.c 5) (hl : l.length ≤ cap) (hc : ∀ (j : Nat) (x : UInt8), l[j]? = some x → c[o + j]? = some (.int .u8 x.toNat)) (hv : v = .slice (some ⟨g, o, none⟩) l.length cap) : Byt w v l := by
  refine ⟨g, o, cap, hv, hl, fun j x hx => ?_⟩
  have h1 := hc j x hx
  have hb := hw.blk _ hm
  have key : ∀ fr, w.heap[g]? = some (.cells c.toArray 5 fr) → w.cell? ⟨g, o + j, none⟩ = some (.int .u8 x.toNat) := by
    intro fr h2
    simp only [World.cell?, h2]
    rw [List.getElem?_toArray, h1]
    simp
  rcases hk with rfl | rfl
  · obtain ⟨fr, h2⟩ := hb; exact key fr h2
  · exact key (0, 0) hb
theorem bytesL_get {l : T} {j : Nat} {x : UInt8} (h : l[j]? = some x) : (bytesL l)[j]? = some (.int .u8 x.toNat) := by simp [bytesL, h]
theorem Byt.take {w : World} {b o n c : Nat} {l : T} (h : Byt w (.slice (some ⟨b, o, none⟩) n c) l) (k : Nat) (hk : k ≤ l.length) : Byt w (.slice (some ⟨b, o, none⟩) k c) (l.take k) := by
  obtain ⟨b', o', c', e, hc, h⟩ := h
  cases e
  refine ⟨b, o, c, by rw [List.length_take, Nat.min_eq_left hk], by rw [List.length_take]; omega, fun j x hx => h j x ?_⟩
  rw [List.getElem?_take] at hx
  split at hx
  · exact hx
  · cases hx
section
variable {X : Cx} {P : Program} {f : Fr} {m : Mem} {d : Option Tmp} {ty : TypeId} {pos : String} {af : Array Edge} {gd : Option (Nat × Bool)}
theorem ystrW {x : Operand} {t t' e : Nat} {l : T} {v : Value} {r : ByteArray} (hx : evF f x = some v) (hv : Byt X.w0 v l) (hS : ∀ k, X.S k → False) (hs : P.underlying t = some (.slice e)) (he : P.underlying e = some (.int .u8)) (ht : P.underlying t' = some .string) (hr : ba l = r) :
    Yl X P f m ⟨d, .convert t t' x, ty, pos, af, gd⟩ (.string r) := .of fun a w st => by
  subst hr
  obtain ⟨b, o, c, rfl, _, hc⟩ := hv
  have := run_convert_bytes_back (P := P) w t t' e ⟨b, o, none⟩ c l hs he ht (fun j hj => by
    have h1 := hc j l[j] (List.getElem?_eq_getElem hj)
    have h2 : (⟨b, o, none⟩ : Addr).add j = ⟨b, o + j, none⟩ := by unfold Addr.add; split <;> simp_all
    rw [h2]
    exact cell_evo st.evo (hS _) h1)
  simp [execOp, st.agr.eval hx, this]
  rfl
theorem ylenW {x : Operand} {t e : Nat} {l : T} {w : World} {v : Value} (hx : evF f x = some v) (hv : Byt w v l) (hs : P.underlying t = some (.slice e)) : Yl X P f m ⟨d, .call ⟨.builtin .len, #[x], #[t]⟩, ty, pos, af, gd⟩ (.int .i64 l.length) := by
  obtain ⟨b, o, c, rfl, _⟩ := hv
  exact ylenl hx hs
end
theorem ba_inj {a b : T} : ba a = ba b ↔ a = b := ⟨fun h => by have := congrArg (fun x : ByteArray => x.data.toList) h; simpa [ba] using this, fun h => h ▸ rfl⟩
theorem und59 : Tryz.prog.underlying 62 = some (.slice 5) := by kernel_rfl
theorem und5 : Tryz.prog.underlying 5 = some (.int .u8) := by kernel_rfl
theorem und9 : Tryz.prog.underlying 9 = some .string := by kernel_rfl
theorem sz5 : szB Tryz.prog 5 1 = true := by kernel_rfl
theorem one3 : oneB Tryz.prog 3 = true := by kernel_rfl
theorem one4 : oneB Tryz.prog 4 = true := by kernel_rfl
theorem one5 : oneB Tryz.prog 5 = true := by kernel_rfl
theorem one9 : oneB Tryz.prog 9 = true := by kernel_rfl
theorem one59 : oneB Tryz.prog 62 = true := by kernel_rfl
theorem mixed : Tryz.prog.follows .mixedOrders = true := by kernel_rfl
theorem bo150 : bodyB Tryz.prog 128 = true := by kernel_rfl
theorem bo132 : bodyB Tryz.prog 110 = true := by kernel_rfl
theorem bo151 : bodyB Tryz.prog 129 = true := by kernel_rfl
theorem bo99 : bodyB Tryz.prog 79 = true := by kernel_rfl
theorem bo100 : bodyB Tryz.prog 80 = true := by kernel_rfl
theorem equal_calls {w : World} {va vb : Value} {a b : T} (ha : Byt w va a) (hb : Byt w vb b) : Calls Tryz.prog 128 #[va, vb] w fun e w' => e = .returned (.bool (decide (a = b))) ∧ Below w.heap.size w w' := by
  refine enter (fun _ => False) 10 [] Tryz.func128 rfl rfl rfl (vs := [va, vb]) (Has.nil _) ?_
  conv => arg 2; arg 2; whnf
  repeat' (first | refine cseq ?_ | refine rtext ?_ | refine cret ?_ | refine jnil ?_ | (first | refine jmv rfl rfl rfl ?_ | refine jas_ rfl rfl rfl ?_ | (show Jo _ (.binOp _ _ _ _ _); ((show Jo _ (.binOp .eql 9 _ _ _); refine jy (yseql rfl rfl rfl) rfl rfl ?_))) | (show Jo (some 6) (.convert _ 9 _); refine jy (ystrW rfl ha (fun _ h => h) und59 und5 und9 rfl) rfl rfl ?_) | (show Jo (some 8) (.convert _ 9 _); refine jy (ystrW rfl hb (fun _ h => h) und59 und5 und9 rfl) rfl rfl ?_)))
  exact ret1 rfl rfl rfl (fun w' hw' => ⟨by rw [decide_eq_decide.2 ba_inj], hw'.2.below (fun k _ h => h) (Nat.le_refl _)⟩)
theorem prefix_take (p l : T) : p.isPrefixOf l = decide (l.take p.length = p) := by
  rw [Bool.eq_iff_iff, List.isPrefixOf_iff_prefix, decide_eq_true_eq, List.prefix_iff_eq_take]
  exact eq_comm
theorem hasp_calls {w : World} {va vb : Value} {l p : T} (ha : Byt w va l) (hb : Byt w vb p) : Calls Tryz.prog 110 #[va, vb] w fun e w' => e = .returned (.bool (p.isPrefixOf l)) ∧ Below w.heap.size w w' := by
  refine enter (fun _ => False) 18 [] Tryz.func110 rfl rfl rfl (vs := [va, vb]) (Has.nil _) ?_
  conv => arg 2; arg 2; whnf
  obtain ⟨ab, ao, ac, rfl, hac, hacells⟩ := ha
  have ha : Byt w (.slice (some ⟨ab, ao, none⟩) l.length ac) l := ⟨ab, ao, ac, rfl, hac, hacells⟩
  by_cases hq : p.length ≤ l.length
  · repeat' (first | refine cseq ?_ | refine rtext ?_ | refine cret ?_ | refine jnil ?_ | (first | refine jmv rfl rfl rfl ?_ | refine jas_ rfl rfl rfl ?_ | (show Jo _ (.binOp _ _ _ _ _); refine jy (ygeq rfl rfl (by (exact decide_eq_true (by omega)))) rfl rfl ?_) | (show Jo _ (.pick _ _ _); refine jy (ypick1 rfl rfl) rfl rfl ?_) | (show Jo _ (.call _); first | (show Jo (some 6) (.call ⟨.builtin .len, _, _⟩); refine jy (ylenW rfl ha und59) rfl rfl ?_) | (show Jo _ (.call ⟨.builtin .len, _, _⟩); refine jy (ylenW rfl hb und59) rfl rfl ?_) | (show Jo _ (.call ⟨.value (.func 128), _, _⟩); refine jcallq bo150 rfl rfl rfl (quietC fun w' hw' => equal_calls ((ha.take p.length hq).below (hw'.2.below (fun _ _ h => h) (Nat.le_refl _)) (Nat.le_refl _)) (hb.below (hw'.2.below (fun _ _ h => h) (Nat.le_refl _)) (Nat.le_refl _))) ?_)) | (show Jo _ (.slice 62 _ none (some _) none); refine jy (yslH (n := p.length) rfl rfl und59 sz5 rfl (by omega)) rfl rfl ?_)))
    exact ret1 rfl rfl rfl (fun w' hw' => ⟨by rw [prefix_take], hw'.2.below (fun k _ h => h) (Nat.le_refl _)⟩)
  · repeat' (first | refine cseq ?_ | refine rtext ?_ | refine cret ?_ | refine jnil ?_ | (first | refine js rfl rfl ?_ | refine jmv rfl rfl rfl ?_ | refine jas_ rfl rfl rfl ?_ | (show Jo _ (.binOp _ _ _ _ _); refine jy (ygeq rfl rfl (by (exact decide_eq_false (by omega)))) rfl rfl ?_) | (show Jo _ (.pick _ _ _); refine jy (ypick0 rfl rfl) rfl rfl ?_) | (show Jo _ (.call _); first | (show Jo (some 6) (.call ⟨.builtin .len, _, _⟩); refine jy (ylenW rfl ha und59) rfl rfl ?_) | (show Jo _ (.call ⟨.builtin .len, _, _⟩); refine jy (ylenW rfl hb und59) rfl rfl ?_))))
    refine ret1 rfl rfl rfl (fun w' hw' => ⟨?_, hw'.2.below (fun k _ h => h) (Nat.le_refl _)⟩)
    rw [prefix_take, decide_eq_false (fun h => hq (by rw [← h, List.length_take]; omega))]
theorem idx_at {p : T} : ∀ {l : T} {i : Nat}, p.isPrefixOf (l.drop i) = true → (∀ q, q < i → p.isPrefixOf (l.drop q) = false) → i ≤ l.length → idx p l = some i := by
  intro l
  induction l with
  | nil =>
    intro i h1 _ h3
    obtain rfl : i = 0 := by simpa using h3
    unfold idx
    have : p = [] := by cases p <;> simp_all
    rw [if_pos this]
  | cons c r ih =>
    intro i h1 h2 h3
    unfold idx
    cases i with
    | zero => rw [if_pos (by simpa using h1)]
    | succ i =>
      have h0 := h2 0 (Nat.succ_pos i)
      rw [List.drop_zero] at h0
      rw [if_neg (by rw [h0]; simp), ih (i := i) (by simpa using h1) (fun q hq => by have := h2 (q + 1) (by omega); simpa using this) (by simpa using h3)]
      rfl
theorem idx_no {p : T} : ∀ {l : T}, (∀ q, q ≤ l.length → p.isPrefixOf (l.drop q) = false) → idx p l = none := by
  intro l
  induction l with
  | nil =>
    intro h
    have h0 := h 0 (Nat.le_refl _)
    unfold idx
    rw [if_neg (fun e => by rw [e] at h0; simp at h0)]
  | cons c r ih =>
    intro h
    have h0 := h 0 (Nat.zero_le _)
    rw [List.drop_zero] at h0
    unfold idx
    rw [if_neg (by rw [h0]; simp), ih (fun q hq => by have := h (q + 1) (by simpa using hq); simpa using this)]
    rfl
def idxI (p l : T) : Int := match idx p l with
  | some q => (q : Int)
  | none => -1
theorem add_at (b o i : Nat) : (⟨b, o, none⟩ : Addr).add i = ⟨b, o + i, none⟩ := by unfold Addr.add; split <;> simp_all
theorem Byt.sub {w : World} {b o n c : Nat} {l : T} (h : Byt w (.slice (some ⟨b, o, none⟩) n c) l) (i k : Nat) (hk : i + k ≤ l.length) : Byt w (.slice (if c = i then some ⟨b, o, none⟩ else (some (⟨b, o, none⟩ : Addr)).map (·.add (i * 1))) k (c - i)) ((l.drop i).take k) := by
  obtain ⟨b', o', c', e, hc, h⟩ := h
  cases e
  have hl : ((l.drop i).take k).length = k := by rw [List.length_take, List.length_drop]; omega
  by_cases hci : c = i
  · obtain rfl : k = 0 := by omega
    rw [if_pos hci]
    exact ⟨b, o, c - i, by simp, by simp, fun j x hx => by simp at hx⟩
  · rw [if_neg hci]
    refine ⟨b, o + i, c - i, ?_, by rw [hl]; omega, fun j x hx => ?_⟩
    · rw [hl, Option.map_some, add_at, Nat.mul_one]
    · rw [List.getElem?_take] at hx
      split at hx
      · rw [List.getElem?_drop] at hx
        rw [Nat.add_assoc]
        exact h _ x hx
      · cases hx
theorem index_calls {w : World} {va vb : Value} {l p : T} (ha : Byt w va l) (hb : Byt w vb p) (hl : l.length ≤ 35184372088832) (hp : p.length ≤ 35184372088832) : Calls Tryz.prog 129 #[va, vb] w fun e w' => e = .returned (.int .i64 (idxI p l)) ∧ Below w.heap.size w w' := by
  refine enter (fun _ => False) 27 [] Tryz.func129 rfl rfl rfl (vs := [va, vb]) (Has.nil _) ?_
  conv => arg 2; arg 2; whnf
  obtain ⟨ab, ao, ac, rfl, hac, hacells⟩ := ha
  have ha : Byt w (.slice (some ⟨ab, ao, none⟩) l.length ac) l := ⟨ab, ao, ac, rfl, hac, hacells⟩
  have post : ∀ (f : Fr) (m : Mem), Rx.look f 4 = some (.int .i64 (idxI p l)) → PJ ⟨27, [], fun _ => False, w⟩ (bodyPost Tryz.prog Tryz.f129 (fun e w' => e = .returned (.int .i64 (idxI p l)) ∧ Below w.heap.size w w') .ret) f m := fun f m hf =>
    ret1 rfl rfl hf (fun w' hw' => ⟨rfl, hw'.2.below (fun k _ h => h) (Nat.le_refl _)⟩)
  repeat' (first | refine cseq ?_ | refine rtext ?_ | refine cblk ?_ | refine jnil ?_ | ((refine jas_ rfl rfl rfl ?_)))
  refine fin (f' := [(0, .slice (some ⟨ab, ao, none⟩) l.length ac), (1, vb), (5, .int .i64 (0 : Nat))]) (m' := [])
    (cloop (ι := Nat) (fun j => [(0, .slice (some ⟨ab, ao, none⟩) l.length ac), (1, vb), (5, .int .i64 (j : Nat))]) (fun _ => []) (fun n j => n = l.length + 1 - j ∧ j ≤ l.length + 1 ∧ ∀ q, q < j → p.isPrefixOf (l.drop q) = false) (l.length + 1) 0 ⟨rfl, Nat.zero_le _, fun q h => by omega⟩ ?_) ⟨rfl, rfl, rfl, trivial⟩ rfl
  rintro n j ⟨rfl, hjl, hpre⟩ K hK
  by_cases hlt : j + p.length ≤ l.length
  · have hsub := ha.sub j p.length hlt
    have hdd : p.isPrefixOf (l.drop j) = decide (ba ((l.drop j).take p.length) = ba p) := by rw [prefix_take]; exact decide_eq_decide.2 ba_inj.symm
    by_cases he : p.isPrefixOf (l.drop j) = true
    · have hd : decide (ba ((l.drop j).take p.length) = ba p) = true := hdd ▸ he
      repeat' (first | (show PJ _ (Code.wp _ _ _) _ _; first | refine cseq ?_ | refine rtext ?_ | refine ctrue rfl ?_ | refine cskip ?_ | refine cblk ?_ | refine cret ?_ | refine rquiet mixed (by kernel_rfl) ?_) | refine tret ?_ | refine bret ?_ | refine jnil ?_ | (first | refine jmv rfl rfl rfl ?_ | refine jas_ rfl rfl rfl ?_ | (show Jo _ (.binOp _ _ _ _ _); first | (show Jo _ (.binOp .add _ _ _ _); refine jy (yadd (c := ((j + p.length : Nat) : Int)) rfl rfl (by rw [i64_in (by omega) (by omega)]; omega)) rfl rfl ?_) | (show Jo _ (.binOp .leq _ _ _ _); refine jy (yleq rfl rfl (by (exact decide_eq_true (by omega)))) rfl rfl ?_) | (show Jo _ (.binOp .eql 9 _ _ _); refine jy (yseql rfl rfl hd) rfl rfl ?_)) | (show Jo _ (.call _); first | (show Jo (some 11) (.call ⟨.builtin .len, _, _⟩); refine jy (ylenW rfl ha und59) rfl rfl ?_) | (show Jo _ (.call ⟨.builtin .len, _, _⟩); refine jy (ylenW rfl hb und59) rfl rfl ?_)) | (show Jo _ (.slice 62 _ (some _) (some _) none); refine jy (yslLH (n := j) (n' := j + p.length) (kk := p.length) rfl rfl rfl und59 sz5 rfl rfl (by omega) (by omega) rfl (by omega) rfl) rfl rfl ?_) | (show Jo (some 22) (.convert _ 9 _); refine jy (ystrW rfl hsub (fun _ h => h) und59 und5 und9 rfl) rfl rfl ?_) | (show Jo (some 24) (.convert _ 9 _); refine jy (ystrW rfl hb (fun _ h => h) und59 und5 und9 rfl) rfl rfl ?_)))
      exact post _ _ (by unfold idxI; rw [idx_at he hpre (by omega)]; rfl)
    · have he' : p.isPrefixOf (l.drop j) = false := Bool.eq_false_iff.2 he
      have hd : decide (ba ((l.drop j).take p.length) = ba p) = false := hdd ▸ he'
      repeat' (first | (show PJ _ (Code.wp _ _ _) _ _; first | refine cseq ?_ | refine rtext ?_ | refine ctrue rfl ?_ | refine cfalse rfl ?_ | refine cskip ?_ | refine cblk ?_ | refine rquiet mixed (by kernel_rfl) ?_) | refine tnorm ?_ | refine jnil ?_ | (first | refine jmv rfl rfl rfl ?_ | refine jas_ rfl rfl rfl ?_ | (show Jo _ (.binOp _ _ _ _ _); first | (show Jo (some 14) (.binOp .add _ _ _ _); refine jy (yadd (c := ((j + 1 : Nat) : Int)) rfl rfl (by rw [i64_in (by omega) (by omega)]; omega)) rfl rfl ?_) | (show Jo _ (.binOp .add _ _ _ _); refine jy (yadd (c := ((j + p.length : Nat) : Int)) rfl rfl (by rw [i64_in (by omega) (by omega)]; omega)) rfl rfl ?_) | (show Jo _ (.binOp .leq _ _ _ _); refine jy (yleq rfl rfl (by (exact decide_eq_true (by omega)))) rfl rfl ?_) | (show Jo _ (.binOp .eql 9 _ _ _); refine jy (yseql rfl rfl hd) rfl rfl ?_)) | (show Jo _ (.call _); first | (show Jo (some 11) (.call ⟨.builtin .len, _, _⟩); refine jy (ylenW rfl ha und59) rfl rfl ?_) | (show Jo _ (.call ⟨.builtin .len, _, _⟩); refine jy (ylenW rfl hb und59) rfl rfl ?_)) | (show Jo _ (.slice 62 _ (some _) (some _) none); refine jy (yslLH (n := j) (n' := j + p.length) (kk := p.length) rfl rfl rfl und59 sz5 rfl rfl (by omega) (by omega) rfl (by omega) rfl) rfl rfl ?_) | (show Jo (some 22) (.convert _ 9 _); refine jy (ystrW rfl hsub (fun _ h => h) und59 und5 und9 rfl) rfl rfl ?_) | (show Jo (some 24) (.convert _ 9 _); refine jy (ystrW rfl hb (fun _ h => h) und59 und5 und9 rfl) rfl rfl ?_)))
      exact fin (hK (l.length + 1 - (j + 1)) (j + 1) (by omega) ⟨rfl, by omega, fun q hq => by rcases Nat.lt_succ_iff_lt_or_eq.1 hq with h | rfl; exact hpre q h; exact he'⟩) ⟨rfl, rfl, rfl, trivial⟩ rfl
  · repeat' (first | refine cseq ?_ | refine rtext ?_ | refine cfalse rfl ?_ | refine cret ?_ | refine cexit ?_ | refine jnil ?_ | (first | refine jmv rfl rfl rfl ?_ | refine jas_ rfl rfl rfl ?_ | (show Jo _ (.binOp _ _ _ _ _); first | (show Jo _ (.binOp .add _ _ _ _); refine jy (yadd (c := ((j + p.length : Nat) : Int)) rfl rfl (by rw [i64_in (by omega) (by omega)]; omega)) rfl rfl ?_) | (show Jo _ (.binOp .leq _ _ _ _); refine jy (yleq rfl rfl (by (exact decide_eq_false (by omega)))) rfl rfl ?_)) | (show Jo _ (.call _); first | (show Jo (some 11) (.call ⟨.builtin .len, _, _⟩); refine jy (ylenW rfl ha und59) rfl rfl ?_) | (show Jo _ (.call ⟨.builtin .len, _, _⟩); refine jy (ylenW rfl hb und59) rfl rfl ?_))))
    refine post _ _ ?_
    have : idx p l = none := idx_no fun q hq => by
      by_cases h : q < j
      · exact hpre q h
      · rw [prefix_take, decide_eq_false (fun e => by have := congrArg List.length e; rw [List.length_take, List.length_drop] at this; omega)]
    unfold idxI
    rw [this]
    rfl
def isSpI (r : Int) : Bool := r == 9 || r == 10 || r == 11 || r == 12 || r == 13 || r == 32
theorem space_calls {w : World} (r : Int) : Calls Tryz.prog 79 #[.int .i32 r] w fun e w' => e = .returned (.bool (isSpI r)) ∧ Below w.heap.size w w' := by
  refine enter (fun _ => False) 11 [] Tryz.func79 rfl rfl rfl (vs := [.int .i32 r]) (Has.nil _) ?_
  conv => arg 2; arg 2; whnf
  repeat' (first | refine cseq ?_ | refine rtext ?_ | refine ctrue rfl ?_ | refine cfalse rfl ?_ | refine cskip ?_ | refine cblk ?_ | refine cret ?_ | refine tret ?_ | refine bret ?_ | refine jnil ?_ | (first | refine jmv rfl rfl rfl ?_ | refine jas_ rfl rfl rfl ?_ | (show Jo _ (.binOp _ _ _ _ _); refine jeql rfl rfl rfl rfl (fun hq => ?_) (fun hq => ?_))))
  all_goals exact ret1 rfl rfl rfl (fun w' hw' => ⟨by unfold isSpI; simp_all, hw'.2.below (fun k _ h => h) (Nat.le_refl _)⟩)
theorem eol_calls {w : World} (r : Int) : Calls Tryz.prog 80 #[.int .i32 r] w fun e w' => e = .returned (.bool (r == 13 || r == 10)) ∧ Below w.heap.size w w' := by
  refine enter (fun _ => False) 9 [] Tryz.func80 rfl rfl rfl (vs := [.int .i32 r]) (Has.nil _) ?_
  conv => arg 2; arg 2; whnf
  repeat' (first | refine cseq ?_ | refine rtext ?_ | refine cret ?_ | refine jnil ?_ | (first | refine js rfl rfl ?_ | refine jmv rfl rfl rfl ?_ | refine jas_ rfl rfl rfl ?_ | (show Jo _ (.binOp _ _ _ _ _); refine jeql rfl rfl rfl rfl (fun hq => ?_) (fun hq => ?_)) | (show Jo _ (.pick _ _ _); first | refine jy (ypick1 rfl rfl) rfl rfl ?_ | refine jy (ypick0 rfl rfl) rfl rfl ?_)))
  all_goals exact ret1 rfl rfl rfl (fun w' hw' => ⟨by simp_all, hw'.2.below (fun k _ h => h) (Nat.le_refl _)⟩)
structure Hd where
  gL : Nat
  gI : Nat
  gS : Nat
  gM : Nat
  cap : Nat
  s : T
  tl : List Value
  st0 : Value
  nf : Bool
  nd : Bool
structure LS where
  st : Value
  pos : Nat
  start : Nat
  wd : Nat
  div : Value
  chk : Bool
  lt : Nat
  rt : Nat
  inl : Bool
  name : ByteArray
  cl : Nat
  stp : Nat
  par : Nat
  its : Value
def lc (H : Hd) (l : LS) : List Value := [.slice (some ⟨H.gI, 0, none⟩) H.s.length H.cap, H.st0, l.st, .int .i64 l.pos, .int .i64 l.start, .int .i64 l.wd, .pointer (some ⟨H.gS, 0, none⟩), .bool H.nf, .bool H.nd, l.div, .bool l.chk, .int .i64 l.lt, .int .i64 l.rt, .bool l.inl, .string l.name, .int .i64 l.cl, .int .i64 l.stp, .int .i64 l.par, .map (some H.gM), l.its, .nilIface]
def lB (H : Hd) (l : LS) : Nat × List Value × Bk := (H.gL, lc H l, .c 92)
def iB (H : Hd) : Nat × List Value × Bk := (H.gI, bytesL H.s ++ H.tl, .r 5)
def pL (H : Hd) : Value := .pointer (some ⟨H.gL, 0, none⟩)
structure Tab (w : World) : Prop where
  utf8 : Lib.Utf8Tabs 2 3 w
  props : Lib.TabIs Tryz.prog w "unicode.properties" .u8 Lib.propertiesTab
  letter : Lib.RVar 6 Lib.letterT w
  digit : Lib.RVar 7 Lib.digitT w
  white : Lib.WhiteTab 1 w
  ascii : Lib.TabIs Tryz.prog w "bytes.asciiSpace" .u8 Lib.asciiSpaceTab
def Bs (W : World) (X : Cx) : Prop := Below W.heap.size W X.w0 ∧ ∀ k, X.S k → W.heap.size ≤ k
theorem Bs.w {W : World} {X : Cx} {m : Mem} {w : World} (h : Bs W X) (hw : Cl X m w) : Below W.heap.size W w := h.1.trans (hw.2.below (fun k hk hc => by have := h.2 k hc; omega) h.1.size)
theorem Bs.sub {W : World} {X : Cx} {m : Mem} {w : World} (h : Bs W X) (hw : Cl X m w) (n : Nat) : Bs W (X.sub n w) := by
  refine ⟨h.w hw, fun k hk => ?_⟩
  rcases hk with hk | hk
  · exact h.2 k hk
  · have := h.1.size
    have hk : X.w0.heap.size ≤ k := hk
    omega
structure Ok (X : Cx) (H : Hd) : Prop where
  W : ∃ W, Bs W X ∧ Tab W
  sz : H.s.length ≤ H.cap
  big : H.s.length ≤ 35184372088832
  mL : X.may H.gL
  mM : X.may H.gM
theorem Ok.sub {X : Cx} {H : Hd} {m : Mem} {w : World} (h : Ok X H) (hw : Cl X m w) (n : Nat) : Ok (X.sub n w) H := by
  obtain ⟨⟨W, h1, h2⟩, h3, h4, h5, h6⟩ := h
  exact ⟨⟨W, h1.sub hw n, h2⟩, h3, h4, Cx.may_sub h5, Cx.may_sub h6⟩
theorem Tab.below {W w : World} (h : Tab W) (hb : Below W.heap.size W w) : Tab w :=
  ⟨Go.Proofs.Utf8Tabs_below h.utf8 hb, Go.Proofs.TabIs_below (show Tryz.prog.globalNamed "unicode.properties" = some 5 by kernel_rfl) h.props hb, Go.Proofs.RVar_below h.letter hb, Go.Proofs.RVar_below h.digit hb, Go.Proofs.WhiteTab_below h.white hb, Go.Proofs.TabIs_below (show Tryz.prog.globalNamed "bytes.asciiSpace" = some 0 by kernel_rfl) h.ascii hb⟩
theorem Ok.tab {X : Cx} {H : Hd} {m : Mem} {w : World} (h : Ok X H) (hw : Cl X m w) : Tab w := by
  obtain ⟨⟨W, h1, h2⟩, _⟩ := h
  exact h2.below (h1.w hw)
def restV (H : Hd) (p : Nat) : Value := .slice (if H.cap = p then some ⟨H.gI, 0, none⟩ else (some (⟨H.gI, 0, none⟩ : Addr)).map (·.add (p * 1))) (H.s.length - p) (H.cap - p)
theorem inp_byt {H : Hd} {m : Mem} {w : World} (hw : Has m w) (hm : iB H ∈ m) (hs : H.s.length ≤ H.cap) : Byt w (.slice (some ⟨H.gI, 0, none⟩) H.s.length H.cap) H.s :=
  Byt.cells hw hm (.inl rfl) hs (fun j x hx => by rw [Nat.zero_add, List.getElem?_append_left (by simpa [bytesL] using (List.getElem?_eq_some_iff.1 hx).1)]; exact bytesL_get hx) rfl
theorem rest_byt {H : Hd} {m : Mem} {w : World} (hw : Has m w) (hm : iB H ∈ m) (hs : H.s.length ≤ H.cap) {p : Nat} (hp : p ≤ H.s.length) : Byt w (restV H p) (H.s.drop p) := by
  have h := (inp_byt hw hm hs).sub p (H.s.length - p) (by omega)
  rw [List.take_of_length_le (by simp)] at h
  exact h
theorem dec_calls {w : World} {v : Value} {l : T} (hT : Lib.Utf8Tabs 2 3 w) (hB : Byt w v l) (hl : l ≠ []) : Calls Tryz.prog 89 #[v] w fun e w' => e = .returned (.tuple #[.int .i32 (rn l), .int .i64 (wd l)]) ∧ Below w.heap.size w w' := by
  obtain ⟨b, o, c, rfl, hc, hB⟩ := hB
  have hz : (ba l).size = l.length := by simp [ba, ByteArray.size]
  have h := Go.Proofs.Any7.utf8_DecodeRune Tryz.lays7n32 (ba l) b o c w hT (fun j hj => by
    rw [hz] at hj
    have h1 := hB j l[j] (List.getElem?_eq_getElem hj)
    rw [h1]
    simp [ba, ByteArray.get!, hj])
  rw [hz] at h
  have hd : Lib.decodeGo (ba l) = dec l := by
    unfold Lib.decodeGo
    rw [if_neg (by rw [hz]; exact fun h => hl (List.length_eq_zero_iff.1 h)), decode_dec]
    simp [ba]
  rw [hd] at h
  have e1 : rn l = ((dec l).1 : Int) := by unfold rn; rw [if_neg hl]
  have e2 : wd l = (dec l).2 := by unfold wd; rw [if_neg hl]
  rw [e1, e2]
  exact h
theorem fb110_0 : fieldB Tryz.prog 92 0 = some 0 := by kernel_rfl
theorem fb110_1 : fieldB Tryz.prog 92 1 = some 1 := by kernel_rfl
theorem fb110_2 : fieldB Tryz.prog 92 2 = some 2 := by kernel_rfl
theorem fb110_3 : fieldB Tryz.prog 92 3 = some 3 := by kernel_rfl
theorem fb110_4 : fieldB Tryz.prog 92 4 = some 4 := by kernel_rfl
theorem fb110_5 : fieldB Tryz.prog 92 5 = some 5 := by kernel_rfl
theorem fb110_6 : fieldB Tryz.prog 92 6 = some 6 := by kernel_rfl
theorem fb110_7 : fieldB Tryz.prog 92 7 = some 7 := by kernel_rfl
theorem fb110_8 : fieldB Tryz.prog 92 8 = some 9 := by kernel_rfl
theorem fb110_9 : fieldB Tryz.prog 92 9 = some 10 := by kernel_rfl
theorem fb110_10 : fieldB Tryz.prog 92 10 = some 11 := by kernel_rfl
theorem fb110_11 : fieldB Tryz.prog 92 11 = some 19 := by kernel_rfl
theorem fb110_12 : fieldB Tryz.prog 92 12 = some 20 := by kernel_rfl
theorem fb108_0 : fieldB Tryz.prog 90 0 = some 0 := by kernel_rfl
theorem fb108_1 : fieldB Tryz.prog 90 1 = some 1 := by kernel_rfl
theorem fb108_2 : fieldB Tryz.prog 90 2 = some 2 := by kernel_rfl
theorem fb108_5 : fieldB Tryz.prog 90 5 = some 5 := by kernel_rfl
theorem fb108_6 : fieldB Tryz.prog 90 6 = some 6 := by kernel_rfl
theorem fb108_7 : fieldB Tryz.prog 90 7 = some 7 := by kernel_rfl
theorem si3 : (Tryz.prog.info? 3).map (·.size) = some 1 := by kernel_rfl
theorem si4 : (Tryz.prog.info? 4).map (·.size) = some 1 := by kernel_rfl
theorem si59 : (Tryz.prog.info? 62).map (·.size) = some 1 := by kernel_rfl
theorem si77 : (Tryz.prog.info? 67).map (·.size) = some 1 := by kernel_rfl
theorem si85 : (Tryz.prog.info? 75).map (·.size) = some 1 := by kernel_rfl
theorem si104 : (Tryz.prog.info? 86).map (·.size) = some 1 := by kernel_rfl
theorem one85 : oneB Tryz.prog 75 = true := by kernel_rfl
theorem one77 : oneB Tryz.prog 67 = true := by kernel_rfl
theorem one104 : oneB Tryz.prog 86 = true := by kernel_rfl
theorem bo93 : bodyB Tryz.prog 73 = true := by kernel_rfl
theorem bo101 : bodyB Tryz.prog 81 = true := by kernel_rfl
theorem bo111 : bodyB Tryz.prog 89 = true := by kernel_rfl
theorem bo114 : bodyB Tryz.prog 92 = true := by kernel_rfl
theorem bo115 : bodyB Tryz.prog 93 = true := by kernel_rfl
theorem bo117 : bodyB Tryz.prog 95 = true := by kernel_rfl
theorem bo135 : bodyB Tryz.prog 113 = true := by kernel_rfl
theorem bo170 : bodyB Tryz.prog 148 = true := by kernel_rfl
theorem next_calls {X : Cx} {H : Hd} {E : Mem} (hX : Ok X H) (l : LS) (hp : l.pos ≤ H.s.length) : ∀ w, Cl X (lB H l :: iB H :: E) w → Calls Tryz.prog 73 #[pL H] w fun e w' => e = .returned (.int .i32 (rn (H.s.drop l.pos))) ∧ Cl X (lB H { l with pos := l.pos + wd (H.s.drop l.pos), wd := wd (H.s.drop l.pos) } :: iB H :: E) w' := by
  intro w hw
  refine enterC 47 hw Tryz.func73 rfl rfl (vs := [pL H]) rfl ?_
  replace hX := hX.sub hw 47
  have hbig := hX.big
  have hsz := hX.sz
  conv => arg 2; arg 2; whnf
  by_cases hlt : l.pos < H.s.length
  · have hne : H.s.drop l.pos ≠ [] := fun h => by have := congrArg List.length h; simp at this; omega
    have hwl := wd_le (H.s.drop l.pos)
    rw [List.length_drop] at hwl
    repeat' (first | (show PJ _ (Code.wp _ _ _) _ _; first | refine cseq ?_ | refine rtext ?_ | refine cfalse rfl ?_ | refine cskip ?_ | refine cret ?_ | (show PJ _ (Code.wp _ (Code.region 6 _ true) _) _ _; refine rtail 11 mixed (by kernel_rfl) ?_) | refine rquiet mixed (by kernel_rfl) ?_) | (show PJ _ (wpList _ _ _ _) _ _; refine jlist ?_) | refine jnil ?_ | (first | refine jmv rfl rfl rfl ?_ | refine jy (ynil rfl) rfl rfl ?_ | (show Jo _ (.fieldAddr _ _ _); refine jy (yfield rfl (by first | exact fb110_3 | exact fb110_0 | exact fb110_5) rfl) rfl rfl ?_) | (show Jo _ (.load _ _); refine jy (yload (i := 0) rfl rfl rfl one3) rfl rfl ?_) | refine jas_ rfl rfl rfl ?_ | (show Jo _ (.binOp _ _ _ _ _); first | refine jy (yadd (c := ((l.pos + wd (H.s.drop l.pos) : Nat) : Int)) rfl rfl (by rw [i64_in (by omega) (by omega)]; omega)) rfl rfl ?_ | refine jy (ygeq rfl rfl (by (exact decide_eq_false (by omega)))) rfl rfl ?_) | (show Jo _ (.store _ _ _); refine jstore (i := 0) rfl rfl rfl rfl rfl si3 hX.mL ?_) | (show Jo _ (.call _); first | (show Jo _ (.call ⟨.builtin .len, _, _⟩); refine jy (ylenl rfl und59) rfl rfl ?_) | (show Jo _ (.call ⟨.value (.func 89), _, _⟩); refine jcallq bo111 rfl rfl rfl (quietC fun w' hw' => dec_calls (hX.tab hw').utf8 (rest_byt hw'.1 (.tail _ (.head _)) hX.sz hp) hne) ?_)) | (show Jo _ (.extract _ _); refine jy (yextractL rfl rfl) rfl rfl ?_) | (show Jo _ (.slice 62 _ (some _) none none); refine jy (v := restV H l.pos) (yslL rfl rfl und59 sz5 rfl hp rfl rfl rfl) rfl rfl ?_)))
    exact ret1 rfl rfl rfl (fun w' hw' => ⟨rfl, hw.up hw'⟩)
  · have hne : H.s.drop l.pos = [] := List.drop_eq_nil_of_le (by omega)
    have e1 : rn (H.s.drop l.pos) = -1 := by rw [hne]; rfl
    have e2 : wd (H.s.drop l.pos) = 0 := by rw [hne]; rfl
    rw [e1, e2]
    repeat' (first | (show PJ _ (Code.wp _ _ _) _ _; first | refine cseq ?_ | refine rtext ?_ | refine ctrue rfl ?_ | refine cret ?_ | refine rquiet mixed (by kernel_rfl) ?_) | refine tret ?_ | refine jnil ?_ | (first | refine jmv rfl rfl rfl ?_ | refine jy (ynil rfl) rfl rfl ?_ | (show Jo _ (.fieldAddr _ _ _); refine jy (yfield rfl (by first | exact fb110_3 | exact fb110_0 | exact fb110_5) rfl) rfl rfl ?_) | (show Jo _ (.load _ _); refine jy (yload (i := 0) rfl rfl rfl one3) rfl rfl ?_) | refine jas_ rfl rfl rfl ?_ | (show Jo _ (.binOp _ _ _ _ _); refine jy (ygeq rfl rfl (by (exact decide_eq_true (by omega)))) rfl rfl ?_) | (show Jo _ (.store _ _ _); refine jstore (i := 0) rfl rfl rfl rfl rfl si3 hX.mL ?_) | (show Jo _ (.call _); ((show Jo _ (.call ⟨.builtin .len, _, _⟩); refine jy (ylenl rfl und59) rfl rfl ?_)))))
    exact ret1 rfl rfl rfl (fun w' hw' => ⟨rfl, hw.up hw'⟩)
theorem backup_calls {X : Cx} {H : Hd} {E : Mem} (hX : Ok X H) (l : LS) (hp : l.pos ≤ H.s.length) (hwd : l.wd ≤ l.pos) : ∀ w, Cl X (lB H l :: E) w → Calls Tryz.prog 95 #[pL H] w fun e w' => e = .returned (.tuple #[]) ∧ Cl X (lB H { l with pos := l.pos - l.wd } :: E) w' := by
  intro w hw
  refine enterC 13 hw Tryz.func95 rfl rfl (vs := [pL H]) rfl ?_
  replace hX := hX.sub hw 13
  have hbig := hX.big
  conv => arg 2; arg 2; whnf
  repeat' (first | (show PJ _ (Code.wp _ _ _) _ _; ((show PJ _ (Code.wp _ (Code.region 0 _ true) _) _ _; refine rtail 11 mixed (by kernel_rfl) ?_))) | (show PJ _ (wpList _ _ _ _) _ _; refine jlist ?_) | refine jnil ?_ | (first | refine jmv rfl rfl rfl ?_ | refine jy (ynil rfl) rfl rfl ?_ | (show Jo _ (.fieldAddr _ _ _); refine jy (yfield rfl (by first | exact fb110_3 | exact fb110_5) rfl) rfl rfl ?_) | (show Jo _ (.load _ _); refine jy (yload (i := 0) rfl rfl rfl one3) rfl rfl ?_) | (show Jo _ (.binOp _ _ _ _ _); (refine jy (ysub (c := ((l.pos - l.wd : Nat) : Int)) rfl rfl (by rw [i64_in (by omega) (by omega)]; omega)) rfl rfl ?_)) | (show Jo _ (.store _ _ _); refine jstore (i := 0) rfl rfl rfl rfl rfl si3 hX.mL ?_)))
  exact end0 rfl rfl (fun w' hw' => ⟨rfl, hw.up hw'⟩)
theorem ignore_calls {X : Cx} {H : Hd} {E : Mem} (hX : Ok X H) (l : LS) : ∀ w, Cl X (lB H l :: E) w → Calls Tryz.prog 92 #[pL H] w fun e w' => e = .returned (.tuple #[]) ∧ Cl X (lB H { l with start := l.pos } :: E) w' := by
  intro w hw
  refine enterC 9 hw Tryz.func92 rfl rfl (vs := [pL H]) rfl ?_
  replace hX := hX.sub hw 9
  conv => arg 2; arg 2; whnf
  repeat' (first | (show PJ _ (Code.wp _ _ _) _ _; (refine rtext ?_)) | refine jnil ?_ | (first | refine jmv rfl rfl rfl ?_ | refine jy (ynil rfl) rfl rfl ?_ | (show Jo _ (.fieldAddr _ _ _); refine jy (yfield rfl (by first | exact fb110_3 | exact fb110_4) rfl) rfl rfl ?_) | (show Jo _ (.load _ _); refine jy (yload (i := 0) rfl rfl rfl one3) rfl rfl ?_) | (show Jo _ (.store _ _ _); refine jstore (i := 0) rfl rfl rfl rfl rfl si3 hX.mL ?_)))
  exact end0 rfl rfl (fun w' hw' => ⟨rfl, hw.up hw'⟩)
theorem wd_rest {H : Hd} {p : Nat} (hp : p ≤ H.s.length) : p + wd (H.s.drop p) ≤ H.s.length := by
  have hwl := wd_le (H.s.drop p)
  rw [List.length_drop] at hwl
  omega
theorem peek_calls {X : Cx} {H : Hd} {E : Mem} (hX : Ok X H) (l : LS) (hp : l.pos ≤ H.s.length) : ∀ w, Cl X (lB H l :: iB H :: E) w → Calls Tryz.prog 148 #[pL H] w fun e w' => e = .returned (.int .i32 (rn (H.s.drop l.pos))) ∧ Cl X (lB H { l with wd := wd (H.s.drop l.pos) } :: iB H :: E) w' := by
  intro w hw
  refine enterC 9 hw Tryz.func148 rfl rfl (vs := [pL H]) rfl ?_
  replace hX := hX.sub hw 9
  have hwl := wd_rest hp
  conv => arg 2; arg 2; whnf
  repeat' (first | refine cseq ?_ | refine rtext ?_ | refine cret ?_ | refine jnil ?_ | (first | refine jmv rfl rfl rfl ?_ | refine jas_ rfl rfl rfl ?_ | (show Jo _ (.call _); first | (show Jo _ (.call ⟨.value (.func 73), _, _⟩); refine jcall0 (lB H { l with pos := l.pos + wd (H.s.drop l.pos), wd := wd (H.s.drop l.pos) } :: iB H :: E) bo93 rfl rfl rfl (next_calls hX l hp) ?_) | (show Jo _ (.call ⟨.value (.func 95), _, _⟩); refine jcall0 (lB H { l with pos := l.pos + wd (H.s.drop l.pos) - wd (H.s.drop l.pos), wd := wd (H.s.drop l.pos) } :: iB H :: E) bo117 rfl rfl rfl (backup_calls hX { l with pos := l.pos + wd (H.s.drop l.pos), wd := wd (H.s.drop l.pos) } hwl (Nat.le_add_left _ _)) ?_))))
  refine ret1 rfl rfl rfl (fun w' hw' => ⟨rfl, ?_⟩)
  have h := hw.up hw'
  rw [Nat.add_sub_cancel] at h
  exact h
theorem hasPrefix_calls {w : World} {H : Hd} {l : LS} {v : Value} {p : T} (hm : Has [lB H l, iB H] w) (hv : Byt w v p) (hsz : H.s.length ≤ H.cap) (hp : l.pos ≤ H.s.length) : Calls Tryz.prog 93 #[pL H, v] w fun e w' => e = .returned (.bool (p.isPrefixOf (H.s.drop l.pos))) ∧ Below w.heap.size w w' := by
  refine enter (fun _ => False) 16 [lB H l, iB H] Tryz.func93 rfl rfl rfl (vs := [pL H, v]) hm ?_
  conv => arg 2; arg 2; whnf
  repeat' (first | (show PJ _ (Code.wp _ _ _) _ _; first | refine cseq ?_ | refine rtext ?_ | refine cret ?_ | refine rquiet mixed (by kernel_rfl) ?_) | refine jnil ?_ | (first | refine jmv rfl rfl rfl ?_ | refine jy (ynil rfl) rfl rfl ?_ | (show Jo _ (.fieldAddr _ _ _); refine jy (yfield rfl (by first | exact fb110_3 | exact fb110_0) rfl) rfl rfl ?_) | (show Jo _ (.load _ _); refine jy (yload (i := 0) rfl rfl rfl one3) rfl rfl ?_) | refine jas_ rfl rfl rfl ?_ | (show Jo _ (.call _); ((show Jo _ (.call ⟨.value (.func 110), _, _⟩); refine jcallq bo132 rfl rfl rfl (quietC fun w' hw' => hasp_calls (rest_byt hw'.1 (.tail _ (.head _)) hsz hp) (hv.below (hw'.2.below (fun _ _ h => h) (Nat.le_refl _)) (Nat.le_refl _))) ?_))) | (show Jo _ (.slice 62 _ (some _) none none); refine jy (v := restV H l.pos) (yslL rfl rfl und59 sz5 rfl hp rfl rfl rfl) rfl rfl ?_)))
  exact ret1 rfl rfl rfl (fun w' hw' => ⟨rfl, hw'.2.below (fun k _ h => h) (Nat.le_refl _)⟩)
theorem lindex_calls {w : World} {H : Hd} {l : LS} {v : Value} {p : T} (hm : Has [lB H l, iB H] w) (hv : Byt w v p) (hsz : H.s.length ≤ H.cap) (hbig : H.s.length ≤ 35184372088832) (hpl : p.length ≤ 35184372088832) (hp : l.pos ≤ H.s.length) : Calls Tryz.prog 113 #[pL H, v] w fun e w' => e = .returned (.int .i64 (idxI p (H.s.drop l.pos))) ∧ Below w.heap.size w w' := by
  refine enter (fun _ => False) 16 [lB H l, iB H] Tryz.func113 rfl rfl rfl (vs := [pL H, v]) hm ?_
  conv => arg 2; arg 2; whnf
  repeat' (first | (show PJ _ (Code.wp _ _ _) _ _; first | refine cseq ?_ | refine rtext ?_ | refine cret ?_ | refine rquiet mixed (by kernel_rfl) ?_) | refine jnil ?_ | (first | refine jmv rfl rfl rfl ?_ | refine jy (ynil rfl) rfl rfl ?_ | (show Jo _ (.fieldAddr _ _ _); refine jy (yfield rfl (by first | exact fb110_3 | exact fb110_0) rfl) rfl rfl ?_) | (show Jo _ (.load _ _); refine jy (yload (i := 0) rfl rfl rfl one3) rfl rfl ?_) | refine jas_ rfl rfl rfl ?_ | (show Jo _ (.call _); ((show Jo _ (.call ⟨.value (.func 129), _, _⟩); refine jcallq bo151 rfl rfl rfl (quietC fun w' hw' => index_calls (rest_byt hw'.1 (.tail _ (.head _)) hsz hp) (hv.below (hw'.2.below (fun _ _ h => h) (Nat.le_refl _)) (Nat.le_refl _)) (by rw [List.length_drop]; omega) hpl) ?_))) | (show Jo _ (.slice 62 _ (some _) none none); refine jy (v := restV H l.pos) (yslL rfl rfl und59 sz5 rfl hp rfl rfl rfl) rfl rfl ?_)))
  exact ret1 rfl rfl rfl (fun w' hw' => ⟨rfl, hw'.2.below (fun k _ h => h) (Nat.le_refl _)⟩)
theorem isEOF_calls {w : World} {H : Hd} {l : LS} (hm : Has [lB H l] w) : Calls Tryz.prog 81 #[pL H] w fun e w' => e = .returned (.bool (decide (H.s.length ≤ l.pos))) ∧ Below w.heap.size w w' := by
  refine enter (fun _ => False) 13 [lB H l] Tryz.func81 rfl rfl rfl (vs := [pL H]) hm ?_
  conv => arg 2; arg 2; whnf
  by_cases hlt : H.s.length ≤ l.pos
  · repeat' (first | (show PJ _ (Code.wp _ _ _) _ _; first | refine cseq ?_ | refine rtext ?_ | refine cret ?_ | refine rquiet mixed (by kernel_rfl) ?_) | refine jnil ?_ | (first | refine jmv rfl rfl rfl ?_ | refine jy (ynil rfl) rfl rfl ?_ | (show Jo _ (.fieldAddr _ _ _); refine jy (yfield rfl (by first | exact fb110_3 | exact fb110_0) rfl) rfl rfl ?_) | (show Jo _ (.load _ _); refine jy (yload (i := 0) rfl rfl rfl one3) rfl rfl ?_) | refine jas_ rfl rfl rfl ?_ | (show Jo _ (.binOp _ _ _ _ _); refine jy (ygeq rfl rfl (by (exact decide_eq_true (by omega)))) rfl rfl ?_) | (show Jo _ (.call _); ((show Jo _ (.call ⟨.builtin .len, _, _⟩); refine jy (ylenl rfl und59) rfl rfl ?_)))))
    exact ret1 rfl rfl rfl (fun w' hw' => ⟨by rw [decide_eq_true hlt], hw'.2.below (fun k _ h => h) (Nat.le_refl _)⟩)
  · repeat' (first | (show PJ _ (Code.wp _ _ _) _ _; first | refine cseq ?_ | refine rtext ?_ | refine cret ?_ | refine rquiet mixed (by kernel_rfl) ?_) | refine jnil ?_ | (first | refine jmv rfl rfl rfl ?_ | refine jy (ynil rfl) rfl rfl ?_ | (show Jo _ (.fieldAddr _ _ _); refine jy (yfield rfl (by first | exact fb110_3 | exact fb110_0) rfl) rfl rfl ?_) | (show Jo _ (.load _ _); refine jy (yload (i := 0) rfl rfl rfl one3) rfl rfl ?_) | refine jas_ rfl rfl rfl ?_ | (show Jo _ (.binOp _ _ _ _ _); refine jy (ygeq rfl rfl (by (exact decide_eq_false (by omega)))) rfl rfl ?_) | (show Jo _ (.call _); ((show Jo _ (.call ⟨.builtin .len, _, _⟩); refine jy (ylenl rfl und59) rfl rfl ?_)))))
    exact ret1 rfl rfl rfl (fun w' hw' => ⟨by rw [decide_eq_false hlt], hw'.2.below (fun k _ h => h) (Nat.le_refl _)⟩)
end Go.Proofs.YtkehggbmpdacpabGreatDoor.Pg
namespace Go.Rx
open Go.RowKit
section
variable {X : Cx} {P : Program} {f : Fr} {m : Mem} {d : Option Tmp} {ty : TypeId} {pos : String} {af : Array Edge} {gd : Option (Nat × Bool)} {ops : Array Oper} {Q : Exit → Act → World → Prop} {K : Act → World → Prop} {rest : List Oper}
theorem jdefC {k : Nat} {x : Operand} {tys : Array TypeId} {us : List Value} (hx : evF f x = some (.func (.func k) #[] us.toArray))
    (h : J false ⟨X.n, ⟨.fn (.func k) us.toArray, #[]⟩ :: X.D, X.S, X.w0⟩ P ops Q K rest f m) : J false X P ops Q K (⟨none, .defer ⟨.value x, #[], tys⟩, ty, pos, af, none⟩ :: rest) f m := by
  refine ⟨fun a w s => ?_⟩
  unfold wpList
  rw [if_pos (by rfl)]
  refine .inl ?_
  unfold Oper.wp
  have hr : (execOp a.eval ⟨none, .defer ⟨.value x, #[], tys⟩, ty, pos, af, none⟩).run P w = .ok (.defer ⟨.fn (.func k) us.toArray, #[]⟩) w := by
    simp [execOp, resolve, Deferred.ofValue, s.agr.eval hx]
  rw [hr]
  refine h.out _ _ ⟨⟨s.agr.size, ?_, s.agr.slot⟩, s.has, s.evo⟩
  show _ :: a.defers = _ :: X.D
  rw [s.agr.defers]
theorem enterDC {k : Nat} {fn : Func} {c : Code} {vs : List Value} {w : World} {R : Ending → World → Prop} (n : Nat) (hw : Cl X m w) (hf : P.funcs[k]? = some fn) (hb : fn.body = some c) (hn : fn.ntmps = n) (hl : Nat.ble vs.length n = true)
    (h : PJ (X.sub n w) (c.wp P (bodyPostD P fn R)) (args0 0 vs) m) : Calls P k vs.toArray w R := by
  refine calls_of_wp_defers hf hb (h.out _ _ ⟨⟨?_, rfl, fun j v hj => ?_⟩, hw.1, Evo.refl _ _⟩)
  · have := Nat.le_of_ble_eq_true hl
    simp [Cx.sub, hn]; omega
  · have h1 := look_args0 vs 0 j v hj
    have h2 : vs[j]? = some v := by simpa using h1.2
    have h3 : j < vs.length := by
      rcases Nat.lt_or_ge j vs.length with h | h
      · exact h
      · rw [List.getElem?_eq_none h] at h2; cases h2
    have := Nat.le_of_ble_eq_true hl
    refine ⟨by dsimp [Cx.sub]; omega, ?_⟩
    simp only [Array.getD_eq_getD_getElem?]
    rw [Array.getElem?_append_left (by simpa using h3)]
    simp [h2]
theorem retDC {fn fk : Func} {ck : Code} {R : Ending → World → Prop} {k n : Nat} {us : List Value} {ex : Exit} (hex : ex = .ret ∨ ex = .normal) (hb : bodyB P k = true) (hD : X.D = [⟨.fn (.func k) us.toArray, #[]⟩]) (hr : fn.results = #[])
    (hf : P.funcs[k]? = some fk) (hc : fk.body = some ck) (hn : fk.ntmps = n) (hl : Nat.ble us.length n = true)
    (h : ∀ w, Cl X m w → PJ (X.sub n w) (ck.wp P (bodyPost P fk fun e w' => e = .returned (.tuple #[]) ∧ R (.returned (.tuple #[])) w')) (args0 0 us) m) : PJ X (bodyPostD P fn R ex) f m := .of fun a w s => by
  have key : Leaves P fn a.tmps R a.defers .returning w := by
    rw [s.agr.defers.trans hD]
    refine leaves_cons (f := k) (args := us.toArray) (by simp) ?_ ?_
    · unfold bodyB at hb
      cases hf' : P.funcs[k]? with
      | none => simp [hf'] at hb
      | some fn =>
        simp only [hf', Bool.and_eq_true, Bool.not_eq_true', beq_eq_false_iff_ne] at hb
        obtain ⟨h1, h2⟩ := hb
        have h3 : fn.body.isNone = false := by cases h : fn.body <;> simp [h] at h1 ⊢
        simp [invoke, callFunc, Sem.run_bind, program, Sem.run, hf', pure]
        rw [if_neg (by simpa using h2), if_neg (by intro e; rw [e] at h3; cases h3)]
    · have hw : Cl X m w := ⟨s.has, s.evo⟩
      refine (callsD_of_wp (u := .returning) hf hc ((h w hw).out _ _ ⟨⟨?_, rfl, fun j v hj => ?_⟩, hw.1, Evo.refl _ _⟩)).mono fun e u' w' ⟨h1, h2, h3⟩ => ?_
      · have := Nat.le_of_ble_eq_true hl
        simp [Cx.sub, hn]; omega
      · have h1 := look_args0 us 0 j v hj
        have h2 : us[j]? = some v := by simpa using h1.2
        have h3 : j < us.length := by
          rcases Nat.lt_or_ge j us.length with h | h
          · exact h
          · rw [List.getElem?_eq_none h] at h2; cases h2
        have := Nat.le_of_ble_eq_true hl
        refine ⟨by dsimp [Cx.sub]; omega, ?_⟩
        simp only [Array.getD_eq_getD_getElem?]
        rw [Array.getElem?_append_left (by simpa using h3)]
        simp [h2]
      · subst h1
        subst h2
        exact ⟨_, results_none hr _ _ _, h3⟩
  rcases hex with rfl | rfl
  · exact key
  · exact key
theorem has_mark {w : World} (h : Has m w) {i g : Nat} {c : List Value} {e : TypeId} (hi : m[i]? = some (g, c, Bk.c e)) (fr : Nat × Nat) :
    Has (m.set i (g, c, Bk.r e)) { w with heap := w.heap.modify g (fun _ => .cells c.toArray e fr) } := by
  have hil : i < m.length := (List.getElem?_eq_some_iff.1 hi).1
  have hlt : g < w.heap.size := by
    rcases Nat.lt_or_ge g w.heap.size with h' | h'
    · exact h'
    · have h1 := h.at hi; simp [Array.getElem?_eq_none h'] at h1
  refine ⟨?_, fun x hx => ?_⟩
  · have : (m.set i (g, c, Bk.r e)).map (·.1) = m.map (·.1) := by
      rw [List.map_set]
      apply List.ext_getElem?
      intro j
      rw [List.getElem?_set]
      split
      · rename_i hij
        subst hij
        have := (List.getElem?_eq_some_iff.1 hi).2
        simp [hil, this]
      · rfl
    rw [this]
    exact h.ne
  · obtain ⟨j, hj⟩ := List.getElem?_of_mem hx
    rw [List.getElem?_set] at hj
    split at hj
    · rename_i hij
      cases hj
      refine ⟨fr, ?_⟩
      show (w.heap.modify g _)[g]? = _
      rw [Array.getElem?_modify, if_pos rfl, Array.getElem?_eq_getElem hlt]
      rfl
    · rename_i hij
      have hne : x.1 ≠ g := by
        intro hxg
        have h1 : (m.map (·.1))[j]? = some g := by simp [hj, hxg]
        have h2 : (m.map (·.1))[i]? = some g := by simp [hi]
        have hjl : j < (m.map (·.1)).length := (List.getElem?_eq_some_iff.1 h1).1
        exact hij ((List.getElem?_inj (by simpa using hil) h.ne).1 (h2.trans h1.symm))
      refine (h.blk x (List.mem_of_getElem? hj)).eq ?_
      show (w.heap.modify g _)[x.1]? = _
      rw [Array.getElem?_modify, if_neg (Ne.symm hne)]
theorem jmark {dd t e g i n cap : Nat} {x : Operand} {c : List Value} (hx : evF f x = some (.slice (some ⟨g, 0, none⟩) n cap)) (hi : m[i]? = some (g, c, Bk.c e)) (ht : P.underlying t = some (.slice e)) (he : P.underlying e = some (.int .u8)) (hg : X.may g) (hd : Nat.blt dd X.n = true)
    (h : J false X P ops Q K rest ((dd, .slice (some ⟨g, 0, none⟩) n cap) :: f) (m.set i (g, c, Bk.r e))) : J false X P ops Q K (⟨some dd, .convert t t x, ty, pos, af, none⟩ :: rest) f m := by
  refine jeff (ι := Unit) (v := fun _ => .slice (some ⟨g, 0, none⟩) n cap) (m' := fun _ => m.set i (g, c, Bk.r e)) (fun _ => True) rfl hd (fun a w st => ?_) (fun _ _ => h)
  have hb := st.has.at hi
  have hlt : g < w.heap.size := by
    rcases Nat.lt_or_ge g w.heap.size with h' | h'
    · exact h'
    · simp [Array.getElem?_eq_none h'] at hb
  have hsh : w.shape? g = some (e, c.length) := by
    unfold World.shape?
    rw [hb]
    simp
  have hfz : w.freeze ⟨g, c.length, none⟩ 1 = { w with heap := w.heap.modify g (fun _ => .cells c.toArray e (c.length, c.length + 1)) } := by
    unfold World.freeze
    rw [if_neg (by decide)]
    congr 1
    apply Array.ext_getElem?
    intro k
    simp only [Array.getElem?_modify]
    split
    · rename_i hk
      subst hk
      rw [hb]
      simp
    · rfl
  refine ⟨(), { w with heap := w.heap.modify g (fun _ => .cells c.toArray e (c.length, c.length + 1)) }, .inl ?_, has_mark st.has hi _, ?_, trivial⟩
  · have h1 : (convert t t (.slice (some ⟨g, 0, none⟩) n cap)).run P w = .ok (.slice (some ⟨g, 0, none⟩) n cap) { w with heap := w.heap.modify g (fun _ => .cells c.toArray e (c.length, c.length + 1)) } := by
      simp [convert, run_underlying ht, run_underlying he, markStringish, hsh]
      exact hfz
    simp [execOp, st.agr.eval hx, h1]
  · refine ⟨st.evo.os, st.evo.tape, st.evo.output, by simpa using st.evo.size, fun k hk hs => ?_⟩
    show (w.heap.modify g _)[k]? = _
    rw [Array.getElem?_modify, if_neg (by rintro rfl; rcases hg with hg | hg; exact hs hg; omega)]
    exact st.evo.block k hk hs
theorem ymkI {x : Operand} {t : TypeId} {v : Value} (hx : evF f x = some v) (ht : P.concrete t = true) : Yl X P f m ⟨d, .makeInterface t x, ty, pos, af, gd⟩ (.iface t v) := .of fun a w s => by
  simp [execOp, s.agr.eval hx, run_makeInterface (P := P) (w := w) t v ht]
theorem jappendG {dd : Nat} {x y : Operand} {t e size bytes n k c cx : Nat} {a b : Addr} {olds news : List Value} (hs : evF f x = some (.slice (some a) n c)) (hx : evF f y = some (.slice (some b) k cx)) (ho : Go.Rx.Src X m (some a) olds) (hn : Go.Rx.Src X m (some b) news)
    (hlo : olds.length = n * size) (hln : news.length = k * size) (h1 : ∀ u ∈ news, u.oneCell' = true) (hg : growB P t e size bytes = true) (hc : c < n + k) (hk : n + k ≤ maxLen) (hb : Nat.ble (Builtin.nextslicecap (n + k) c * bytes) 281474976710656 = true) (hd : Nat.blt dd X.n = true)
    (h : ∀ (g cap : Nat) (zs : List Value), X.w0.heap.size ≤ g → n + k ≤ cap → J false X P ops Q K rest ((dd, .slice (some ⟨g, 0, none⟩) (n + k) cap) :: f) ((g, olds ++ news ++ zs, Bk.c e) :: m)) :
    J false X P ops Q K (⟨some dd, .call ⟨.builtin .append, #[x, y], #[t, t]⟩, ty, pos, af, none⟩ :: rest) f m := by
  obtain ⟨hu, inf, z, q1, q2, q3, q4, q5⟩ := growB_eq hg
  refine jeff (ι := Nat × Nat × List Value) (v := fun q => .slice (some ⟨q.1, 0, none⟩) (n + k) q.2.1) (m' := fun q => (q.1, olds ++ news ++ q.2.2, Bk.c e) :: m) (fun q => X.w0.heap.size ≤ q.1 ∧ n + k ≤ q.2.1) rfl hd (fun w0 w st => ?_) (fun q hq => h q.1 q.2.1 q.2.2 hq.1 hq.2)
  have cells : ∀ (a : Addr) (l : List Value), Go.Rx.Src X m (some a) l → ∀ j u, l[j]? = some u → w.cell? (a.add j) = some u := fun a l hl j u hj => by
    obtain ⟨ad, e1, e2⟩ := hl w ⟨st.has, st.evo⟩ j u hj
    cases e1
    exact e2
  have hsrc : Go.Src P inf.size t (.slice (some b) k cx) k news w := Go.Src.ofSlice w hu b k cx news (by rw [q3]; exact hln) (cells b news hn) h1
  have hold : (Builtin.firstCells inf.size n (.slice (some a) n c)).run P w.drew = .ok olds.toArray w.drew := run_firstCells_some w.drew inf.size n a n c olds (by rw [q3]; exact hlo) (fun j u hj => by simpa using cells a olds ho j u hj)
  have hr := run_append_grow_src (P := P) w t t ty e inf z hu q1 q2 (some a) n c olds hold (.slice (some b) k cx) k news hsrc hc (by simp only [maxLen] at hk; omega) (by rw [q4]; exact Nat.le_of_ble_eq_true hb)
  refine ⟨⟨w.heap.size, grownCap w (n + k) c e, (Builtin.zeroCells z.cells (grownCap w (n + k) c e - (n + k))).toList⟩, w.drew.alloc (.cells ((olds ++ news).toArray ++ Builtin.zeroCells z.cells (grownCap w (n + k) c e - (n + k))) e), .inl ?_, ?_, ?_, st.evo.size, ?_⟩
  · simp only [execOp, resolve, invoke, builtin, Sem.run_bind, Sem.run_pure, Result.andThen_ok, List.map_toArray, List.map_cons, List.map_nil, st.agr.eval hs, st.agr.eval hx, hr]
  · have h1 := (st.has.drawn (w.drawn + 1))
    rw [← drew_eq] at h1
    refine h1.pushO _ _ _ (fun w' h => ?_)
    have e2 : (olds ++ news ++ (Builtin.zeroCells z.cells (grownCap w (n + k) c e - (n + k))).toList).toArray = (olds ++ news).toArray ++ Builtin.zeroCells z.cells (grownCap w (n + k) c e - (n + k)) := by
      apply Array.toList_inj.1
      simp
    show _ = _
    rw [e2]
    exact h
  · have h1 := st.evo.drawn (w.drawn + 1)
    rw [← drew_eq] at h1
    exact h1.push _
  · exact grownCap_ge w (n + k) c e
end
section
variable {X : Cx} {P : Program} {f : Fr} {m : Mem} {Q : Exit → Act → World → Prop}
theorem cscope {c : Code} (h : PJ X (c.wp P (Exit.noGoto Q)) f m) : PJ X ((Code.scope c).wp P Q) f m := .of fun a w s => wp_scope_straight (h.out a w s)
theorem clabel {l : Nat} (h : PJ X (Q .normal) f m) : PJ X ((Code.label l).wp P Q) f m := .of fun a w s => wp_label (h.out a w s)
theorem gret (h : PJ X (Q .ret) f m) : PJ X (Exit.noGoto Q .ret) f m := .of fun a w s => h.out a w s
end
theorem front_calls {X : Cx} {P : Program} {k : Nat} {as0 : Array Value} {v : Value} {M M' E : Mem} (F : Mem) (h : ∀ w, Cl X (M ++ (F ++ E)) w → Calls P k as0 w fun e w' => e = .returned v ∧ Cl X (M' ++ (F ++ E)) w') :
    ∀ w, Cl X (F ++ (M ++ E)) w → Calls P k as0 w fun e w' => e = .returned v ∧ Cl X (F ++ (M' ++ E)) w' := fun w hw => by
  have hp : ∀ a b c : Mem, (a ++ (b ++ c)).Perm (b ++ (a ++ c)) := fun a b c => by
    rw [← List.append_assoc, ← List.append_assoc]
    exact List.Perm.append_right _ List.perm_append_comm
  exact (h w (hw.perm (hp F M E))).mono fun e w' ⟨h1, h2⟩ => ⟨h1, h2.perm (hp M' F E)⟩
end Go.Rx
