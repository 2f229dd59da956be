/- The page laws: texts that all of them use, joined (part 1): Dec0, Lex0, ShelfLib, Pg0, Pg1, PgR, PgD, AnyZ, Pg2, Pg3, Pg4, Pg5, Pg6, Pg7, Pg8, Pg9, Pg10, Pg11, Pg12, Pg13, Pg14, Pg15, Pg16, Pg17, Pg18, Pg19, Pg20, Pg21, Pg22, Pg23, Pg24, Pg25, Pg26, Pg27, Lex1, Lex2, Lex3, Lex4, Txt0, Lex5, Lex7, Pg28, Pg29, Pg30, Pg31, Pg32, Pg33, Pg34, Pg35, Pg36, Pg37, Pg38, Pg39. -/
import Derived.Lib.DecodeN
import Derived.Laws.Cover4
import Derived.Shelf.Small.Utf8
import Derived.Shelf.LaysM
import Derived.Shelf.Bytes.Len
import Derived.Shelf.Bytes.TryGrow
import Derived.Shelf.Bytes.GrowSliceCatch
import Derived.Shelf.Bytes.GrowSlice
import Derived.Shelf.Unicode.Latin
import Derived.Shelf.Unicode.Props
import Derived.Shelf.Unicode.Is16White
import Derived.Shelf.Unicode.IsSpaceAny
import Derived.Shelf.Unicode.Is16Any
import Derived.Shelf.Unicode.Is32Any
import Derived.Shelf.Unicode.ExclAny
import Derived.Shelf.Unicode.PredsAny
import Derived.Shelf.Unicode.PredsPay
import Derived.Shelf.Spec.DecodeRune
import Derived.Shelf.Spec.BytesIndexFunc
import Derived.Shelf.Spec.BytesTrimFunc
import Derived.Test.YtkehggbmpdacpaaGreatDoorProg
import Derived.Lib.Space
import Derived.Defers
import Derived.Lib.SlBytesConst
import Derived.Deep.AppendSrc
import Derived.Scope
import Derived.Lib.BytesSpace
import Derived.Laws.Entries
import Derived.Test.YtkehggbmpdacpaaGreatDoorKp0
set_option maxRecDepth 100000
set_option linter.unusedVariables false
set_option linter.unusedSimpArgs false
set_option linter.unusedSectionVars false
namespace Go.Proofs.YtkehggbmpdacpaaGreatDoor.Dec0
open Go Go.Lib
abbrev T := List UInt8
def gb (l : T) (i : Nat) : Nat := (l.getD i 0).toNat
def dec (l : T) : Nat × Nat := decodeN l.length (gb l 0) (gb l 1) (gb l 2) (gb l 3)
def rn (l : T) : Int := if l = [] then -1 else ((dec l).1 : Int)
def wd (l : T) : Nat := if l = [] then 0 else (dec l).2
theorem decodeN_ge (n b0 b1 b2 b3 : Nat) : 1 ≤ (decodeN n b0 b1 b2 b3).2 := by
  unfold decodeN
  repeat' split
  all_goals simp
theorem wd_pos {l : T} (h : l ≠ []) : 1 ≤ wd l := by
  unfold wd
  rw [if_neg h]
  exact decodeN_ge _ _ _ _ _
theorem dec_ascii {l : T} (h : gb l 0 < 128) : dec l = (gb l 0, 1) := by
  unfold dec decodeN
  rw [if_pos h]
theorem rn_ascii {c : UInt8} {r : T} (h : c.toNat < 128) : rn (c :: r) = (c.toNat : Int) := by
  unfold rn
  rw [if_neg (by simp), dec_ascii (l := c :: r) h]
  rfl
theorem wd_ascii {c : UInt8} {r : T} (h : c.toNat < 128) : wd (c :: r) = 1 := by
  unfold wd
  rw [if_neg (by simp), dec_ascii (l := c :: r) h]
def rs (l : T) : List Int := if h : l ≠ [] then rn l :: rs (l.drop (wd l)) else []
termination_by l.length
decreasing_by
  have := wd_pos h
  have : 0 < l.length := List.length_pos_iff.2 h
  simp; omega
end Go.Proofs.YtkehggbmpdacpaaGreatDoor.Dec0
namespace Go.Proofs.YtkehggbmpdacpaaGreatDoor.Lex0
open Go.Proofs.YtkehggbmpdacpaaGreatDoor.Dec0
structure Env where
  al : Int → Bool
  tr : T → T
def isSp (c : Nat) : Bool := c == 9 || c == 10 || c == 11 || c == 12 || c == 13 || c == 32
def isBl (c : UInt8) : Bool := c == 32 || c == 9 || c == 13
def spN : T → Nat
  | [] => 0
  | c :: r => if isSp c.toNat then spN r + 1 else 0
def toSpN : T → Nat
  | [] => 0
  | c :: r => if isSp c.toNat then 0 else toSpN r + 1
def idx (p : T) : T → Option Nat
  | [] => if p = [] then some 0 else none
  | c :: r => if p.isPrefixOf (c :: r) then some 0 else (idx p r).map (· + 1)
def runN (p : Int → Bool) (l : T) : Nat := if h : l ≠ [] ∧ p (rn l) = true then wd l + runN p (l.drop (wd l)) else 0
termination_by l.length
decreasing_by
  have := wd_pos h.1
  have : 0 < l.length := List.length_pos_iff.2 h.1
  simp; omega
def crlf (l : T) : Nat := match l with
  | 13 :: 10 :: _ => 2
  | 13 :: _ => 1
  | 10 :: _ => 1
  | _ => 0
structure Itm where
  ty : Nat
  low : Nat
  high : Nat
  segs : List (Nat × Nat)
  str : Bool
  err : Bool
inductive St where
  | main | done | left | comment | right | inside | pval | ident | endsc | intro | json | org
structure Lx where
  pos : Nat
  start : Nat
  md : Bool
  inl : Bool
  name : ByteArray
  closing : Nat
  step : Nat
  par : Nat
  op : List (ByteArray × Bool)
  org : Bool
  chk : Bool
  items : List Itm
abbrev Res := Lx × Option St
def oset (k : ByteArray) (v : Bool) : List (ByteArray × Bool) → List (ByteArray × Bool)
  | [] => [(k, v)]
  | (a, u) :: r => if a = k then (k, v) :: r else (a, u) :: oset k v r
def oget (k : ByteArray) : List (ByteArray × Bool) → Bool
  | [] => false
  | (a, u) :: r => if a = k then u else oget k r
def ba (l : T) : ByteArray := ⟨l.toArray⟩
def cut (s : T) (a b : Nat) : T := (s.drop a).take (b - a)
def mk (ty a b : Nat) : Itm := ⟨ty, a, b, [], false, false⟩
def txts (s : T) (a b : Nat) : List Itm :=
  let t := (cut s a b).reverse
  let k := (t.takeWhile isBl).length
  if t ≠ [] ∧ k = t.length then [mk 17 a b]
  else if 0 < k ∧ (t.drop k).head? = some 10 then [mk 18 a (b - k), mk 17 (b - k) b]
  else [mk 18 a b]
def emit (t : Nat) (x : Lx) : Lx := { x with items := x.items ++ [mk t x.start x.pos], start := x.pos }
def emitS (t : Nat) (x : Lx) : Lx := { x with items := x.items ++ [{ mk t x.start x.pos with str := true }], start := x.pos }
def emitT (s : T) (x : Lx) : Lx := { x with items := x.items ++ txts s x.start x.pos, start := x.pos }
def errI (x : Lx) : Lx := { x with items := x.items ++ [{ mk 0 x.start x.pos with err := true }] }
def fail (x : Lx) : Res := (errI x, none)
def ign (x : Lx) : Lx := { x with start := x.pos }
def mv (n : Nat) (x : Lx) : Lx := { x with pos := x.pos + n }
def lsc : T := [123, 123]
def lno : T := [123, 123, 60]
def lmd : T := [123, 123, 37]
def rd (md : Bool) : T := if md then [37, 125, 125] else [62, 125, 125]
def divr (org : Bool) : T := if org then [35, 32, 109, 111, 114, 101] else [60, 33, 45, 45, 109, 111, 114, 101, 45, 45, 62]
def alh (E : Env) (r : Int) : Bool := E.al r || r == 45
def inlOk (E : Env) (b : T) (name : ByteArray) : Bool :=
  (b.drop (spN b)).head? == some 47 && (name.data.toList ++ [32]).isPrefixOf (E.tr (b.drop (spN b + 1)))
def mn : Option Nat → Option Nat → Option Nat
  | none, b => b
  | a, none => a
  | some a, some b => some (min a b)
def dvOn (dv : Bool) (x : Lx) : Bool := dv && !x.chk
def found (s : T) (dv : Bool) (x : Lx) : Option Nat := mn (idx lsc (s.drop x.pos)) (if dvOn dv x then idx (divr x.org) (s.drop x.pos) else none)
def piece (E : Env) (s : T) (dv : Bool) (x : Lx) : Res :=
  let r := s.drop x.pos
  if lmd.isPrefixOf r || lno.isPrefixOf r then
    if x.inl && !inlOk E (r.drop 3) x.name then ({ errI x with pos := s.length }, some .done)
    else ({ x with md := lmd.isPrefixOf r }, some .left)
  else if dvOn dv x && (divr x.org).isPrefixOf r then
    (emit 2 { x with chk := true, pos := x.pos + (divr x.org).length + spN (r.drop (divr x.org).length) }, some .main)
  else (mv 1 x, some .main)
def main (E : Env) (s : T) (dv : Bool) (x : Lx) : Res :=
  if s.length ≤ x.pos then (x, some .done)
  else match found s dv x with
    | none => ({ x with pos := s.length }, some .done)
    | some q => piece E s dv (if x.start < x.pos + q then emitT s (mv q x) else mv q x)
def done (s : T) (x : Lx) : Res := (emit 1 (if x.start < x.pos then emitT s x else x), none)
def left (s : T) (x : Lx) : Res :=
  if [47, 42].isPrefixOf (s.drop (x.pos + 3)) then (mv 3 x, some .comment)
  else ({ emit (if x.md then 10 else 8) (mv 3 x) with step := 0, par := 0 }, some .inside)
def comment (s : T) (x : Lx) : Res := match idx ([42, 47] ++ rd x.md) (s.drop x.pos) with
  | none => fail x
  | some q => if q ≤ 1 then fail x else
    (emitT s (mv 3 (ign (mv 2 (emitT s (mv (q - 2) (ign (mv 2 (emitT s x)))))))), some .main)
def right (x : Lx) : Res := (emit (if x.md then 11 else 9) { mv 3 x with closing := 0 }, some .main)
def pval (s : T) (x : Lx) : Res := (emit 16 (mv (toSpN (s.drop x.pos)) x), some .inside)
def qLoop (alw : Bool) : T → Nat → Option Nat → Bool → Bool → Bool → Bool × Nat × Option Nat × Bool
  | [], n, st, _, esc, _ => (true, n, st, esc)
  | c :: r, n, st, oq, esc, est =>
    if c = 92 then
      if r.head? = some 34 then (if oq then (if alw then qLoop alw r (n + 1) st oq true true else (false, n, st, esc)) else qLoop alw r (n + 1) st oq esc est)
      else if r.head? = some 96 then (true, n + 1, st, esc)
      else qLoop alw r (n + 1) st oq esc est
    else if c = 10 then (true, n + 1, st, esc)
    else if c = 34 then (if est then qLoop alw r (n + 1) st oq esc false else if oq then (false, n, st, esc) else qLoop alw r (n + 1) (some (n + 1)) true esc est)
    else qLoop alw r (n + 1) st oq esc est
def segsL : T → Nat → Nat → List (Nat × Nat)
  | [], k, i => if k < i then [(k, i)] else []
  | c :: r, k, i => if c = 92 then (if k < i then (k, i) :: segsL r (i + 1) (i + 1) else segsL r (i + 1) (i + 1)) else segsL r k (i + 1)
def stAt (x : Lx) : Option Nat → Nat
  | none => x.start
  | some k => x.pos + k
def emitE (t : Nat) (s : T) (x : Lx) : Lx :=
  if segsL (cut s x.start x.pos) x.start x.start = [] then ign x
  else { x with items := x.items ++ [⟨t, 0, 0, segsL (cut s x.start x.pos) x.start x.start, false, false⟩], start := x.pos }
def qEnd (s : T) (x : Lx) : Lx := match s.drop x.pos with
  | 92 :: 34 :: _ => ign (mv 2 x)
  | 92 :: _ => mv 1 x
  | 34 :: _ => ign (mv 1 x)
  | _ => x
def quoted (s : T) (alw : Bool) (ty : Nat) (x : Lx) : Res :=
  let q := qLoop alw (s.drop x.pos) 0 none false false false
  let y := { x with pos := x.pos + q.2.1, start := stAt x q.2.2.1 }
  if q.1 then fail y
  else (qEnd s (if q.2.2.2 then emitE ty s y else emitS ty y), some .inside)
def rLoop : T → Nat → Option Nat → Bool → Bool × Nat × Option Nat
  | [], n, st, _ => (true, n, st)
  | c :: r, n, st, op => if c = 96 then (if op then (false, n, st) else rLoop r (n + 1) (some (n + 1)) true) else rLoop r (n + 1) st op
def raw (s : T) (ty : Nat) (x : Lx) : Res :=
  let q := rLoop (s.drop x.pos) 0 none false
  let y := { x with pos := x.pos + q.2.1, start := stAt x q.2.2 }
  if q.1 then fail y else (ign (mv 1 (emitS ty y)), some .inside)
def parR (E : Env) (r : Int) : Bool := alh E r || r == 46
def param (E : Env) (s : T) (esc : Bool) (x : Lx) : Res :=
  let l := s.drop x.pos
  if rn l = 34 ∨ (rn l = 96 ∧ esc = false) then
    if x.par = 2 then fail (mv 1 x)
    else if rn l = 34 then quoted s (!esc) 15 { x with par := 1 } else raw s 15 { x with par := 1 }
  else if rn l = 96 then fail (mv 1 x)
  else
    let n := runN (parR E) l
    let eq := decide (0 < n) && decide (rn (l.drop n) = 61)
    let y := mv n x
    if x.par = 0 then (emit 15 { y with par := if eq then 2 else 1 }, some .inside)
    else if eq = true ∧ x.par = 1 then fail y
    else if eq = false ∧ x.par = 2 then fail y
    else (emit 15 y, some .inside)
def idR (E : Env) (r : Int) : Bool := alh E r || r == 47
def inlT : T := [105, 110, 108, 105, 110, 101, 32]
def idLoop (E : Env) (l : T) (n : Nat) (inl : Bool) : Bool × Nat × Bool :=
  if h : l ≠ [] then
    if idR E (rn l) then idLoop E (l.drop (wd l)) (n + wd l) inl
    else if rn l = 46 then (if inlT.isPrefixOf (l.drop (wd l)) then idLoop E (l.drop (wd l)) (n + wd l) true else (true, n + wd l, false))
    else (false, n, inl)
  else (false, n, inl)
termination_by l.length
decreasing_by all_goals (have := wd_pos h; have : 0 < l.length := List.length_pos_iff.2 h; simp; omega)
def ident (E : Env) (s : T) (x : Lx) : Res :=
  let q := idLoop E (s.drop x.pos) 0 x.inl
  let y := { x with pos := x.pos + q.2.1, inl := q.2.2 }
  if q.1 then fail y
  else
    let w := ba (cut s y.start y.pos)
    if 0 < x.closing ∧ oget w x.op = false then fail y
    else (emit (if y.inl then 14 else 13) { y with closing := 0, name := w, step := x.step + 1, op := oset w true (if 0 < x.closing then oset w false x.op else x.op) }, some (if 0 < x.closing then .endsc else .inside))
def endsc (s : T) (x : Lx) : Res :=
  let y := { x with inl := false }
  if (rd x.md).isPrefixOf (s.drop x.pos) then (y, some .right)
  else match s.drop x.pos with
    | [] => fail y
    | c :: r => if isSp c.toNat then (ign (mv 1 y), some .endsc) else fail (mv (wd (c :: r)) y)
def inside (E : Env) (s : T) (x : Lx) : Res :=
  let l := s.drop x.pos
  if (rd x.md).isPrefixOf l then (x, some .right)
  else if l = [] then fail x
  else if isSp (rn l).toNat then (ign (mv 1 x), some .inside)
  else if rn l = 61 then
    let y := ign (mv (1 + spN (l.drop 1)) x)
    let p := rn (s.drop y.pos)
    if p = 34 ∨ p = 92 then quoted s (p != 92) 16 y
    else if p = 96 then raw s 16 y
    else (y, some .pval)
  else if rn l = 47 then
    if x.name = ⟨#[]⟩ then fail (mv 1 x)
    else (emit 12 { mv 1 x with closing := x.closing + 1, inl := false, step := 0 }, some .inside)
  else if rn l = 92 then
    let y := ign (mv 1 x)
    if rn (s.drop y.pos) = 34 ∨ rn (s.drop y.pos) = 96 then param E s true y else (y, some .inside)
  else if 0 < x.step ∧ (alh E (rn l) = true ∨ rn l = 34 ∨ rn l = 96) then param E s false x
  else if E.al (rn l) then (x, some .ident)
  else fail (mv (wd l) x)
def fr (d : T) : T → Nat → Option Nat
  | [], _ => none
  | c :: r, n => if (c = 13 ∨ c = 10) ∧ d.isPrefixOf r = true then some (n + 1) else fr d r (n + 1)
def fr0 (d : T) (l : T) (was : Bool) : Option Nat := if was = true ∧ d.isPrefixOf l = true then some 0 else fr d l 0
def fence (s : T) (c : UInt8) (ty : Nat) (x : Lx) : Res :=
  match s.drop x.pos with
  | a :: b :: r => if a = c then (if b = c then
      let y := ign (mv (2 + crlf r) x)
      match fr0 [c, c, c] (s.drop y.pos) (decide (0 < crlf r)) with
      | none => fail { y with pos := s.length }
      | some n => (ign (mv (3 + crlf (s.drop (y.pos + n + 3))) (emit ty (mv n y))), some .main)
    else fail (mv (1 + wd (b :: r)) x)) else fail (mv (wd (a :: b :: r)) x)
  | [a] => if a = c then fail (mv 1 x) else fail (mv (wd [a]) x)
  | [] => fail x
def jsonL : T → Nat → Bool → Nat → Option Nat
  | [], _, _, _ => none
  | 92 :: _ :: r, n, q, lv => jsonL r (n + 2) q lv
  | c :: r, n, q, lv =>
    if c = 123 then jsonL r (n + 1) q (if q then lv else lv + 1)
    else if c = 125 then (if q then jsonL r (n + 1) q lv else if lv ≤ 1 then some (n + 1) else jsonL r (n + 1) q (lv - 1))
    else if c = 34 then jsonL r (n + 1) (!q) lv
    else jsonL r (n + 1) q lv
def json (s : T) (x : Lx) : Res := match jsonL (s.drop x.pos) 0 false 0 with
  | none => fail { x with pos := s.length }
  | some n => (emit 5 (mv (n + crlf (s.drop (x.pos + n))) x), some .main)
def orgL : T → Nat → Nat
  | [], n => n
  | c :: r, n => if c = 10 ∧ [35, 43].isPrefixOf r = false then n + 1 else orgL r (n + 1)
def org (s : T) (x : Lx) : Res :=
  if [35, 43].isPrefixOf (s.drop x.pos) then (emit 6 { mv (orgL (s.drop x.pos) 0) x with org := true }, some .main)
  else (x, some .main)
def intro (s : T) (x : Lx) : Res :=
  let y := mv (spN (s.drop x.pos)) x
  match s.drop y.pos with
  | [] => (y, some .main)
  | c :: r => if c = 43 then fence s 43 4 (mv 1 y) else if c = 45 then fence s 45 3 (mv 1 y) else if c = 123 then (y, some .json) else if c = 35 then (y, some .org)
    else (mv (wd (c :: r)) y, some .main)
def step (E : Env) (s : T) (dv : Bool) : St → Lx → Res
  | .main, x => main E s dv x
  | .done, x => done s x
  | .left, x => left s x
  | .comment, x => comment s x
  | .right, x => right x
  | .inside, x => inside E s x
  | .pval, x => pval s x
  | .ident, x => ident E s x
  | .endsc, x => endsc s x
  | .intro, x => intro s x
  | .json, x => json s x
  | .org, x => org s x
inductive Runs (E : Env) (s : T) (dv : Bool) : St → Lx → List Itm → Prop
  | stop {st x y} : step E s dv st x = (y, none) → Runs E s dv st x y.items
  | go {st x st' y l} : step E s dv st x = (y, some st') → Runs E s dv st' y l → Runs E s dv st x l
theorem Runs.det {E : Env} {s : T} {dv : Bool} {st : St} {x : Lx} {l k : List Itm} (h : Runs E s dv st x l) (h' : Runs E s dv st x k) : l = k := by
  induction h generalizing k with
  | stop h1 =>
    cases h' with
    | stop h2 => rw [h1] at h2; cases h2; rfl
    | go h2 _ => rw [h1] at h2; cases h2
  | go h1 _ ih =>
    cases h' with
    | stop h2 => rw [h1] at h2; cases h2
    | go h2 h3 => rw [h1] at h2; cases h2; exact ih h3
def lx0 : Lx := ⟨0, 0, false, false, ⟨#[]⟩, 0, 0, 0, [], false, false, []⟩
def Parses (E : Env) (s : T) (front dv : Bool) (l : List Itm) : Prop := Runs E s dv (if front then .intro else .main) lx0 l
end Go.Proofs.YtkehggbmpdacpaaGreatDoor.Lex0
namespace Go.Proofs
open Go.Shelf
def Tryz.lays198_ren : Go.Shelf.Ren := ⟨fun | 198 => 188 | 261 => 149 | 311 => 165 | 312 => 166 | n => n, fun | 21 => 21 | 4 => 4 | 141 => 166 | 0 => 0 | 196 => 182 | 193 => 179 | 3 => 3 | 51 => 164 | 198 => 184 | 49 => 40 | 194 => 180 | 201 => 187 | 226 => 192 | 46 => 167 | 227 => 193 | n => n, fun | 5 => 7 | n => n⟩
theorem Tryz.lays198 : Go.Proofs.Lays.n198 Tryz.prog Tryz.lays198_ren := {
  mixed := by kernel_rfl
  f198 := Tryz.func188.trans (congrArg some (by kernel_rfl))
  f261 := Tryz.func149.trans (congrArg some (by kernel_rfl))
  f311 := Tryz.func165.trans (congrArg some (by kernel_rfl))
  f312 := Tryz.func166.trans (congrArg some (by kernel_rfl))
  t0 := Tryz.underlying0
  a0 := Tryz.isAgg0
  z0 := Tryz.sizeOf0
  v0 := Tryz.zeroValue0
  t3 := Tryz.underlying3
  a3 := Tryz.isAgg3
  z3 := Tryz.sizeOf3
  v3 := Tryz.zeroValue3
  t4 := Tryz.underlying4
  a4 := Tryz.isAgg4
  z4 := Tryz.sizeOf4
  v4 := Tryz.zeroValue4
  t21 := Tryz.underlying21
  a21 := Tryz.isAgg21
  z21 := Tryz.sizeOf21
  v21 := Tryz.zeroValue21
  t46 := Tryz.underlying167
  a46 := Tryz.isAgg167
  z46 := Tryz.sizeOf167
  v46 := Tryz.zeroValue167
  t49 := Tryz.underlying40
  a49 := Tryz.isAgg40
  z49 := Tryz.sizeOf40
  v49 := Tryz.zeroValue40
  t51 := Tryz.underlying164
  a51 := Tryz.isAgg164
  z51 := Tryz.sizeOf164
  v51 := Tryz.zeroValue164
  t141 := Tryz.underlying166
  a141 := Tryz.isAgg166
  z141 := Tryz.sizeOf166
  v141 := Tryz.zeroValue166
  t193 := Tryz.underlying179
  a193 := Tryz.isAgg179
  z193 := Tryz.sizeOf179
  v193 := Tryz.zeroValue179
  t194 := Tryz.underlying180
  a194 := Tryz.isAgg180
  z194 := Tryz.sizeOf180
  v194 := Tryz.zeroValue180
  t196 := Tryz.underlying182
  a196 := Tryz.isAgg182
  z196 := Tryz.sizeOf182
  v196 := Tryz.zeroValue182
  t198 := Tryz.underlying184
  a198 := Tryz.isAgg184
  z198 := Tryz.sizeOf184
  v198 := Tryz.zeroValue184
  t201 := Tryz.underlying187
  a201 := Tryz.isAgg187
  z201 := Tryz.sizeOf187
  v201 := Tryz.zeroValue187
  t226 := Tryz.underlying192
  a226 := Tryz.isAgg192
  z226 := Tryz.sizeOf192
  v226 := Tryz.zeroValue192
  t227 := Tryz.underlying193
  a227 := Tryz.isAgg193
  z227 := Tryz.sizeOf193
  v227 := Tryz.zeroValue193
  g5 := by kernel_rfl }
def Tryz.lays199_ren : Go.Shelf.Ren := ⟨fun | 199 => 127 | 261 => 149 | 311 => 165 | 312 => 166 | n => n, fun | 21 => 21 | 4 => 4 | 51 => 164 | 141 => 166 | 0 => 0 | 196 => 182 | 193 => 179 | 3 => 3 | 198 => 184 | 49 => 40 | 194 => 180 | 201 => 187 | 226 => 192 | 46 => 167 | 227 => 193 | n => n, fun | 6 => 1 | n => n⟩
theorem Tryz.lays199 : Go.Proofs.Lays.n199 Tryz.prog Tryz.lays199_ren := {
  mixed := by kernel_rfl
  f199 := Tryz.func127.trans (congrArg some (by kernel_rfl))
  f261 := Tryz.func149.trans (congrArg some (by kernel_rfl))
  f311 := Tryz.func165.trans (congrArg some (by kernel_rfl))
  f312 := Tryz.func166.trans (congrArg some (by kernel_rfl))
  t0 := Tryz.underlying0
  a0 := Tryz.isAgg0
  z0 := Tryz.sizeOf0
  v0 := Tryz.zeroValue0
  t3 := Tryz.underlying3
  a3 := Tryz.isAgg3
  z3 := Tryz.sizeOf3
  v3 := Tryz.zeroValue3
  t4 := Tryz.underlying4
  a4 := Tryz.isAgg4
  z4 := Tryz.sizeOf4
  v4 := Tryz.zeroValue4
  t21 := Tryz.underlying21
  a21 := Tryz.isAgg21
  z21 := Tryz.sizeOf21
  v21 := Tryz.zeroValue21
  t46 := Tryz.underlying167
  a46 := Tryz.isAgg167
  z46 := Tryz.sizeOf167
  v46 := Tryz.zeroValue167
  t49 := Tryz.underlying40
  a49 := Tryz.isAgg40
  z49 := Tryz.sizeOf40
  v49 := Tryz.zeroValue40
  t51 := Tryz.underlying164
  a51 := Tryz.isAgg164
  z51 := Tryz.sizeOf164
  v51 := Tryz.zeroValue164
  t141 := Tryz.underlying166
  a141 := Tryz.isAgg166
  z141 := Tryz.sizeOf166
  v141 := Tryz.zeroValue166
  t193 := Tryz.underlying179
  a193 := Tryz.isAgg179
  z193 := Tryz.sizeOf179
  v193 := Tryz.zeroValue179
  t194 := Tryz.underlying180
  a194 := Tryz.isAgg180
  z194 := Tryz.sizeOf180
  v194 := Tryz.zeroValue180
  t196 := Tryz.underlying182
  a196 := Tryz.isAgg182
  z196 := Tryz.sizeOf182
  v196 := Tryz.zeroValue182
  t198 := Tryz.underlying184
  a198 := Tryz.isAgg184
  z198 := Tryz.sizeOf184
  v198 := Tryz.zeroValue184
  t201 := Tryz.underlying187
  a201 := Tryz.isAgg187
  z201 := Tryz.sizeOf187
  v201 := Tryz.zeroValue187
  t226 := Tryz.underlying192
  a226 := Tryz.isAgg192
  z226 := Tryz.sizeOf192
  v226 := Tryz.zeroValue192
  t227 := Tryz.underlying193
  a227 := Tryz.isAgg193
  z227 := Tryz.sizeOf193
  v227 := Tryz.zeroValue193
  g6 := by kernel_rfl }
end Go.Proofs
namespace Go.Proofs.YtkehggbmpdacpaaGreatDoor.Pg
open Go.Rx hiding bt
open Go.RowKit Go.Proofs.YtkehggbmpdacpaaGreatDoor.Dec0 Go.Proofs.YtkehggbmpdacpaaGreatDoor.Lex0
def Byt (w : World) (v : Value) (l : T) : Prop := ∃ b o c, v = .slice (some ⟨b, o, none⟩) l.length c ∧ l.length ≤ c ∧ ∀ (j : Nat) (x : UInt8), l[j]? = some x → w.cell? ⟨b, o + j, none⟩ = some (.int .u8 x.toNat)
theorem Byt.below {w w' : World} {v : Value} {l : T} {B : Nat} (h : Byt w v l) (hb : Below B w w') (hB : w.heap.size ≤ B) : Byt w' v l := by
  obtain ⟨b, o, c, e, hc, h⟩ := h
  refine ⟨b, o, c, e, hc, fun j x hx => ?_⟩
  have h1 := h j x hx
  have hlt : b < w.heap.size := by
    rcases Nat.lt_or_ge b w.heap.size with h | h
    · exact h
    · simp [World.cell?, Array.getElem?_eq_none h] at h1
  unfold World.cell? at h1 ⊢
  rw [hb.block b (by omega)]
  exact h1
theorem Byt.cells {w : World} {v : Value} {l : T} {g cap o : Nat} {c : List Value} {k : Bk} {m : Mem} (hw : Has m w) (hm : (g, c, k) ∈ m) (hk : k = Bk.r 5 ∨ k = Bk.c 5) (hl : l.length ≤ cap) (hc : ∀ (j : Nat) (x : UInt8), l[j]? = some x → c[o + j]? = some (.int .u8 x.toNat)) (hv : v = .slice (some ⟨g, o, none⟩) l.length cap) : Byt w v l := by
  refine ⟨g, o, cap, hv, hl, fun j x hx => ?_⟩
  have h1 := hc j x hx
  have hb := hw.blk _ hm
  have key : ∀ fr, w.heap[g]? = some (.cells c.toArray 5 fr) → w.cell? ⟨g, o + j, none⟩ = some (.int .u8 x.toNat) := by
    intro fr h2
    simp only [World.cell?, h2]
    rw [List.getElem?_toArray, h1]
    simp
  rcases hk with rfl | rfl
  · obtain ⟨fr, h2⟩ := hb; exact key fr h2
  · exact key (0, 0) hb
theorem Byt.take {w : World} {b o n c : Nat} {l : T} (h : Byt w (.slice (some ⟨b, o, none⟩) n c) l) (k : Nat) (hk : k ≤ l.length) : Byt w (.slice (some ⟨b, o, none⟩) k c) (l.take k) := by
  obtain ⟨b', o', c', e, hc, h⟩ := h
  cases e
  refine ⟨b, o, c, by rw [List.length_take, Nat.min_eq_left hk], by rw [List.length_take]; omega, fun j x hx => h j x ?_⟩
  rw [List.getElem?_take] at hx
  split at hx
  · exact hx
  · cases hx
section
variable {X : Cx} {P : Program} {f : Fr} {m : Mem} {d : Option Tmp} {ty : TypeId} {pos : String} {af : Array Edge} {gd : Option (Nat × Bool)}
end
theorem und9 : Tryz.prog.underlying 9 = some .string := by kernel_rfl
theorem one3 : oneB Tryz.prog 3 = true := by kernel_rfl
theorem one9 : oneB Tryz.prog 9 = true := by kernel_rfl
theorem mixed : Tryz.prog.follows .mixedOrders = true := by kernel_rfl
theorem add_at (b o i : Nat) : (⟨b, o, none⟩ : Addr).add i = ⟨b, o + i, none⟩ := by unfold Addr.add; split <;> simp_all
theorem Byt.sub {w : World} {b o n c : Nat} {l : T} (h : Byt w (.slice (some ⟨b, o, none⟩) n c) l) (i k : Nat) (hk : i + k ≤ l.length) : Byt w (.slice (if c = i then some ⟨b, o, none⟩ else (some (⟨b, o, none⟩ : Addr)).map (·.add (i * 1))) k (c - i)) ((l.drop i).take k) := by
  obtain ⟨b', o', c', e, hc, h⟩ := h
  cases e
  have hl : ((l.drop i).take k).length = k := by rw [List.length_take, List.length_drop]; omega
  by_cases hci : c = i
  · obtain rfl : k = 0 := by omega
    rw [if_pos hci]
    exact ⟨b, o, c - i, by simp, by simp, fun j x hx => by simp at hx⟩
  · rw [if_neg hci]
    refine ⟨b, o + i, c - i, ?_, by rw [hl]; omega, fun j x hx => ?_⟩
    · rw [hl, Option.map_some, add_at, Nat.mul_one]
    · rw [List.getElem?_take] at hx
      split at hx
      · rw [List.getElem?_drop] at hx
        rw [Nat.add_assoc]
        exact h _ x hx
      · cases hx
structure Hd where
  gL : Nat
  gI : Nat
  gS : Nat
  gM : Nat
  cap : Nat
  s : T
  tl : List Value
  st0 : Value
  nf : Bool
  nd : Bool
structure LS where
  st : Value
  pos : Nat
  start : Nat
  wd : Nat
  div : Value
  chk : Bool
  lt : Nat
  rt : Nat
  inl : Bool
  name : ByteArray
  cl : Nat
  stp : Nat
  par : Nat
  its : Value
def iB (H : Hd) : Nat × List Value × Bk := (H.gI, bytesL H.s ++ H.tl, .r 5)
structure Tab (w : World) : Prop where
  utf8 : Lib.Utf8Tabs 2 3 w
  props : Lib.TabIs Tryz.prog w "unicode.properties" .u8 Lib.propertiesTab
  letter : Lib.RVar 6 Lib.letterT w
  digit : Lib.RVar 7 Lib.digitT w
  white : Lib.WhiteTab 1 w
  ascii : Lib.TabIs Tryz.prog w "bytes.asciiSpace" .u8 Lib.asciiSpaceTab
def Bs (W : World) (X : Cx) : Prop := Below W.heap.size W X.w0 ∧ ∀ k, X.S k → W.heap.size ≤ k
theorem Bs.w {W : World} {X : Cx} {m : Mem} {w : World} (h : Bs W X) (hw : Cl X m w) : Below W.heap.size W w := h.1.trans (hw.2.below (fun k hk hc => by have := h.2 k hc; omega) h.1.size)
theorem Bs.sub {W : World} {X : Cx} {m : Mem} {w : World} (h : Bs W X) (hw : Cl X m w) (n : Nat) : Bs W (X.sub n w) := by
  refine ⟨h.w hw, fun k hk => ?_⟩
  rcases hk with hk | hk
  · exact h.2 k hk
  · have := h.1.size
    have hk : X.w0.heap.size ≤ k := hk
    omega
structure Ok (X : Cx) (H : Hd) : Prop where
  W : ∃ W, Bs W X ∧ Tab W
  sz : H.s.length ≤ H.cap
  big : H.s.length ≤ 35184372088832
  mL : X.may H.gL
  mM : X.may H.gM
theorem Ok.sub {X : Cx} {H : Hd} {m : Mem} {w : World} (h : Ok X H) (hw : Cl X m w) (n : Nat) : Ok (X.sub n w) H := by
  obtain ⟨⟨W, h1, h2⟩, h3, h4, h5, h6⟩ := h
  exact ⟨⟨W, h1.sub hw n, h2⟩, h3, h4, Cx.may_sub h5, Cx.may_sub h6⟩
theorem Tab.below {W w : World} (h : Tab W) (hb : Below W.heap.size W w) : Tab w :=
  ⟨Go.Proofs.Utf8Tabs_below h.utf8 hb, Go.Proofs.TabIs_below (show Tryz.prog.globalNamed "unicode.properties" = some 5 by kernel_rfl) h.props hb, Go.Proofs.RVar_below h.letter hb, Go.Proofs.RVar_below h.digit hb, Go.Proofs.WhiteTab_below h.white hb, Go.Proofs.TabIs_below (show Tryz.prog.globalNamed "bytes.asciiSpace" = some 0 by kernel_rfl) h.ascii hb⟩
end Go.Proofs.YtkehggbmpdacpaaGreatDoor.Pg
namespace Go.Rx
open Go.RowKit
section
variable {X : Cx} {P : Program} {f : Fr} {m : Mem} {d : Option Tmp} {ty : TypeId} {pos : String} {af : Array Edge} {gd : Option (Nat × Bool)} {ops : Array Oper} {Q : Exit → Act → World → Prop} {K : Act → World → Prop} {rest : List Oper}
end
section
variable {X : Cx} {P : Program} {f : Fr} {m : Mem} {Q : Exit → Act → World → Prop}
end
end Go.Rx
namespace Go.Proofs.YtkehggbmpdacpaaGreatDoor.Pg
open Go.Rx hiding bt
open Go.RowKit Go.Proofs.YtkehggbmpdacpaaGreatDoor.Dec0 Go.Proofs.YtkehggbmpdacpaaGreatDoor.Lex0

end Go.Proofs.YtkehggbmpdacpaaGreatDoor.Pg
namespace Go.Rx
open Go.RowKit
def fullB (n : Nat) (l : Array Bool) : Bool := (List.range n).all fun k => l.getD k false
def preO (ops : Array Oper) (j : Nat) : List Nat := match ops[j]? with
  | some o => (o.after.toList.filter fun e => Region.binds .any e).map (·.on)
  | none => []
def ancs (ops : Array Oper) (j : Nat) : List Nat := (List.range ops.size).reverse.foldl (fun acc i => bif acc.contains i then acc ++ preO ops i else acc) (preO ops j)
def laterB (n : Nat) (ops : Array Oper) : Bool := (List.range ops.size).all fun j => Nat.blt j n || (List.range n).all fun i => (ancs ops j).contains i
def Closed (ops : Array Oper) (l : Array Bool) : Prop := ∀ i, l.getD i false = true → ∀ k ∈ preO ops i, l.getD k false = true
def closedB (ops : Array Oper) (l : Array Bool) : Bool := (List.range ops.size).all fun i => !(l.getD i false) || (preO ops i).all fun k => l.getD k false
theorem closed_of {ops : Array Oper} {l : Array Bool} (h : closedB ops l = true) : Closed ops l := by
  intro i hi k hk
  unfold closedB at h
  rw [List.all_eq_true] at h
  rcases Nat.lt_or_ge i ops.size with hlt | hge
  · have h1 := h i (List.mem_range.2 hlt)
    rw [hi] at h1
    simp only [Bool.not_true, Bool.false_or] at h1
    exact List.all_eq_true.1 h1 k hk
  · unfold preO at hk
    rw [Array.getElem?_eq_none hge] at hk
    cases hk
theorem pre_ready {ops : Array Oper} {l : Array Bool} {j : Nat} (hj : j ∈ Region.ready .any ops l) : ∀ k ∈ preO ops j, l.getD k false = true := by
  obtain ⟨_, o, ho, hall⟩ := mem_ready.1 hj
  intro k hk
  unfold preO at hk
  rw [ho] at hk
  simp only [List.mem_map, List.mem_filter, Array.mem_toList_iff] at hk
  obtain ⟨e, ⟨he, hb⟩, rfl⟩ := hk
  exact hall e he hb
theorem Closed.set {ops : Array Oper} {l : Array Bool} {j : Nat} (h : Closed ops l) (hj : j ∈ Region.ready .any ops l) : Closed ops (l.setIfInBounds j true) := by
  intro i hi k hk
  by_cases e : j = i
  · subst e
    exact getD_set_true (pre_ready hj k hk)
  · rw [getD_set_ne false e] at hi
    exact getD_set_true (h i hi k hk)
theorem ancs_ready {ops : Array Oper} {l : Array Bool} {j : Nat} (h : Closed ops l) (hj : j ∈ Region.ready .any ops l) : ∀ k ∈ ancs ops j, l.getD k false = true := by
  unfold ancs
  have key : ∀ (xs : List Nat) (acc : List Nat), (∀ k ∈ acc, l.getD k false = true) → ∀ k ∈ xs.foldl (fun acc i => bif acc.contains i then acc ++ preO ops i else acc) acc, l.getD k false = true := by
    intro xs
    induction xs with
    | nil => intro acc ha; exact ha
    | cons x xs ih =>
      intro acc ha
      refine ih _ ?_
      intro k hk
      dsimp only at hk
      cases hc : acc.contains x with
      | false => rw [hc] at hk; exact ha k hk
      | true =>
        rw [hc] at hk
        rcases List.mem_append.1 hk with hk | hk
        · exact ha k hk
        · exact h x (ha x (by simpa using hc)) k hk
  exact key _ _ (pre_ready hj)
def wpAnyT (P : Program) (ops : Array Oper) (Q : Exit → Act → World → Prop) (S : World → Prop) (n : Nat) : Nat → Array Bool → Act → World → Prop
  | 0, listed, a, w => wpAny P .any ops Q 0 listed a w
  | fuel + 1, listed, a, w => if fullB n listed = true then wpAny P .any ops Q (fuel + 1) listed a w else
    (Region.ready .any ops listed = [] → Q .normal a w) ∧
    ∀ i ∈ Region.ready .any ops listed, wpOp P ops Q i (fun a' w' => S w' ∧ wpAnyT P ops Q S n fuel (listed.setIfInBounds i true) a' w') a w
section
variable {P : Program} {ops : Array Oper} {Q : Exit → Act → World → Prop} {S : World → Prop} {n : Nat}
theorem any_of_anyT : ∀ (fuel : Nat) (listed : Array Bool) (a : Act) (w : World), wpAnyT P ops Q S n fuel listed a w → wpAny P .any ops Q fuel listed a w
  | 0, _, _, _, h => h
  | fuel + 1, listed, a, w, h => by
    unfold wpAnyT at h
    split at h
    · exact h
    · exact ⟨h.1, fun i hi => wpOp_mono (fun a' w' h' => any_of_anyT fuel _ a' w' h'.2) (h.2 i hi)⟩
theorem full_not {i : Nat} {listed : Array Bool} (hin : i < n) (h : listed.getD i true = false) : ¬ fullB n listed = true := by
  intro hf
  unfold fullB at hf
  rw [List.all_eq_true] at hf
  have h1 := hf i (List.mem_range.2 hin)
  rcases Nat.lt_or_ge i listed.size with h' | h'
  · simp [h'] at h h1
    rw [h] at h1
    cases h1
  · simp [Array.getElem?_eq_none h'] at h1
theorem anyT_first {i : Nat} {oi : Oper} {v : Value} (hin : i < n) (hlat : laterB n ops = true) (hi : ops[i]? = some oi) (hsel : ∀ (j : Nat) (o : Oper) cs b, ops[j]? = some o → o.op ≠ .select cs b)
    (hQ : ∀ c a w, Q (.panic c) (a.put oi.dst v) w → Q (.panic c) a w) :
    ∀ (fuel : Nat) (listed : Array Bool) (a : Act) (w : World), Closed ops listed →
      (∀ j oj, ops[j]? = some oj → j ≠ i → listed.getD j true = false → (∀ e ∈ oj.after, Region.binds .any e = true → e.on ≠ i) → oi.apart ops oj = true) →
      i ∈ Region.ready .any ops listed → YieldsIf P ops S oi v a → S w →
      wpAnyT P ops Q S n fuel (listed.setIfInBounds i true) (a.put oi.dst v) w → wpAnyT P ops Q S n (fuel + 1) listed a w := by
  intro fuel
  induction fuel with
  | zero =>
    intro listed a w _ _ hr hy hS H
    unfold wpAnyT
    rw [if_neg (full_not hin (mem_ready.1 hr).1)]
    refine ⟨fun h => (by rw [h] at hr; cases hr), fun j hj => ?_⟩
    by_cases hji : j = i
    · subst hji; exact hy.wpOp hi hS ⟨hS, H⟩
    · have := ready_mono hj hji
      rw [H.1] at this
      cases this
  | succ fuel ih =>
    intro listed a w hcl hfree hr hy hS H
    unfold wpAnyT
    rw [if_neg (full_not hin (mem_ready.1 hr).1)]
    refine ⟨fun h => (by rw [h] at hr; cases hr), fun j hj => ?_⟩
    by_cases hji : j = i
    · subst hji; exact hy.wpOp hi hS ⟨hS, H⟩
    · obtain ⟨hjun, oj, hoj, hall⟩ := mem_ready.1 hj
      have hnot : ∀ e ∈ oj.after, Region.binds .any e = true → e.on ≠ i := fun e he hb heq => by
        have h1 := hall e he hb
        have h0 := (mem_ready.1 hr).1
        rw [heq] at h1
        rcases Nat.lt_or_ge i listed.size with h' | h'
        · simp [h'] at h0 h1; rw [h0] at h1; cases h1
        · simp [Array.getElem?_eq_none h'] at h1
      have hjn : j < n := by
        rcases Nat.lt_or_ge j n with h | h
        · exact h
        · exfalso
          unfold laterB at hlat
          rw [List.all_eq_true] at hlat
          have h1 := hlat j (List.mem_range.2 (Array.getElem?_eq_some_iff.1 hoj).1)
          have hb : Nat.blt j n = false := by
            cases hc : Nat.blt j n
            · rfl
            · exact absurd (Nat.blt_eq ▸ hc : j < n) (by omega)
          simp only [hb, Bool.false_or] at h1
          rw [List.all_eq_true] at h1
          have h2 := h1 i (List.mem_range.2 hin)
          have h3 := ancs_ready hcl hj i (by simpa using h2)
          have h0 := (mem_ready.1 hr).1
          rcases Nat.lt_or_ge i listed.size with h' | h'
          · simp [h'] at h0 h3; rw [h0] at h3; cases h3
          · simp [Array.getElem?_eq_none h'] at h3
      have hnf : ¬ fullB n (listed.setIfInBounds i true) = true := full_not hjn (by rw [getD_set_ne true (Ne.symm hji)]; exact hjun)
      unfold wpAnyT at H
      rw [if_neg hnf] at H
      have h1 := H.2 j (ready_mono hj hji)
      have h2 := wpOp_putIf hoj (hfree j oj hoj hji hjun hnot) (fun cs b => hsel i oi cs b hi) (fun cs b => hsel j oj cs b hoj) hQ hy h1
      have hfree' : ∀ k ok, ops[k]? = some ok → k ≠ i → (listed.setIfInBounds j true).getD k true = false →
          (∀ e ∈ ok.after, Region.binds .any e = true → e.on ≠ i) → oi.apart ops ok = true := fun k ok hk hki hun hno => by
        refine hfree k ok hk hki ?_ hno
        by_cases hjk : j = k
        · subst hjk; exact hjun
        · rw [getD_set_ne true hjk] at hun; exact hun
      refine wpOp_mono (fun a' w' h3 => ⟨h3.2.1, ih (listed.setIfInBounds j true) a' w' (hcl.set hj) hfree' (ready_mono hr (Ne.symm hji)) h3.1 h3.2.1 ?_⟩) h2
      rw [Array.setIfInBounds_comm _ _ hji]
      exact h3.2.2
theorem anyT_take {i : Nat} {oi : Oper} {v : Value} {fuel : Nat} {listed : Array Bool} {a : Act} {w : World} (hin : i < n) (hlat : laterB n ops = true) (hcl : Closed ops listed) (hi : ops[i]? = some oi)
    (hs : Region.noSelect ops = true) (hf : Region.free .any ops listed i = true) (hr : (Region.ready .any ops listed).contains i = true)
    (hQ : ∀ c a w, Q (.panic c) (a.put oi.dst v) w → Q (.panic c) a w) (hy : YieldsIf P ops S oi v a) (hS : S w)
    (h : wpAnyT P ops Q S n fuel (listed.setIfInBounds i true) (a.put oi.dst v) w) : wpAnyT P ops Q S n (fuel + 1) listed a w :=
  anyT_first hin hlat hi (Region.noSelect_spec hs) hQ fuel listed a w hcl (Region.free_spec hi hf) (by simpa using hr) hy hS h
theorem anyT_all {rs : List Nat} {fuel : Nat} {listed : Array Bool} {a : Act} {w : World} (hf : fullB n listed = false) (hr : Region.ready .any ops listed = rs) (hne : rs ≠ [])
    (h : ∀ i ∈ rs, wpOp P ops Q i (fun a' w' => S w' ∧ wpAnyT P ops Q S n fuel (listed.setIfInBounds i true) a' w') a w) : wpAnyT P ops Q S n (fuel + 1) listed a w := by
  unfold wpAnyT
  rw [if_neg (by rw [hf]; simp)]
  exact ⟨fun h0 => absurd (hr ▸ h0) hne, hr ▸ h⟩
theorem anyT_full {fuel : Nat} {listed : Array Bool} {a : Act} {w : World} (hf : fullB n listed = true) (h : wpAny P .any ops Q fuel listed a w) : wpAnyT P ops Q S n fuel listed a w := by
  cases fuel with
  | zero => exact h
  | succ fuel => unfold wpAnyT; rw [if_pos hf]; exact h
end
structure WAnyT (P : Program) (l : List Oper) (Q : Exit → Act → World → Prop) (X : Cx) (mS : Mem) (n g : Nat) (D : List Nat) (a : Act) (w : World) : Prop where
  of :: out : wpAnyT P l.toArray Q (Cl X mS) n g (lst l.length D) a w
section
variable {X : Cx} {P : Program} {Q : Exit → Act → World → Prop} {K : Act → World → Prop} {l rest : List Oper} {f : Fr} {m mS : Mem} {o : Oper} {n : Nat}
theorem anyT_of_stl {S : World → Prop} {g : Nat} (hlat : laterB n l.toArray = true) (hsel : Region.noSelect l.toArray = true) (hQ : ∀ c d v a w, Q (.panic c) (Act.put a d v) w → Q (.panic c) a w) :
    ∀ (ks D : List Nat) (os : List Oper) (a : Act) (w : World), Closed l.toArray (lst l.length D) → ks.all (fun i => Nat.blt i n) = true → pickO l ks = some os → pickB l.toArray ks (lst l.length D) = true → S w → stl P l.toArray S K os a w →
      (∀ a w, S w → K a w → wpAnyT P l.toArray Q S n g (lst l.length (D ++ ks)) a w) → wpAnyT P l.toArray Q S n (g + ks.length) (lst l.length D) a w := by
  intro ks
  induction ks with
  | nil =>
    intro D os a w _ _ ho _ hS h hK
    cases ho
    have := hK a w hS h
    simpa using this
  | cons i ks ih =>
    intro D os a w hcl hk ho hB hS h hK
    simp only [List.all_cons, Bool.and_eq_true] at hk
    simp only [pickO] at ho
    split at ho
    · rename_i r hr
      split at ho
      · rename_i o hn
        cases ho
        simp only [pickB, Bool.and_eq_true] at hB
        obtain ⟨v, hy, hrest⟩ := h
        have e1 : (lst l.length D).setIfInBounds i true = lst l.length (D ++ [i]) := by unfold lst; rw [List.foldl_append]; rfl
        have hi : l.toArray[i]? = some o := by rw [List.getElem?_toArray, ← nthO_eq]; exact hn
        refine anyT_take (Nat.blt_eq ▸ hk.1) hlat hcl hi hsel hB.1.2 hB.1.1 (fun c a w h => hQ c _ _ a w h) hy hS ?_
        rw [e1]
        refine ih (D ++ [i]) r _ w (e1 ▸ hcl.set (by simpa using hB.1.1)) hk.2 hr (by rw [← e1]; exact hB.2) hS hrest (fun a w hS hk => ?_)
        have := hK a w hS hk
        rwa [List.append_assoc]
      · cases ho
    · cases ho
theorem jaqT {g g' : Nat} {D D' : List Nat} {os : List Oper} (ks : List Nat) (hD : appO D ks = some D') (hS : ∀ w, Cl X m w → Cl X mS w) (hlat : laterB n l.toArray = true) (hcl : closedB l.toArray (lst l.length D) = true) (hkn : ks.all (fun i => Nat.blt i n) = true) (hsel : Region.noSelect l.toArray = true) (hB : pickB l.toArray ks (lst l.length D) = true) (hg : Nat.beq (g' + ks.length) g = true)
    (hQ : ∀ c d v a w, Q (.panic c) (Act.put a d v) w → Q (.panic c) a w) (ho : pickO l ks = some os)
    (h : JT true X P l.toArray Q (WIf X m (WAnyT P l Q X mS n g' D')) os f mS) : PJ X (WAnyT P l Q X mS n g D) f m := .of fun a w s => .of <| by
  obtain rfl := Nat.eq_of_beq_eq_true hg
  obtain rfl := appO_of hD
  have hm : Cl X m w := ⟨s.has, s.evo⟩
  have hm' := hS w hm
  have h1 : stl P l.toArray (Cl X mS) (fun a' w' => w' = w ∧ WIf X m (WAnyT P l Q X mS n g' (D ++ ks)) a' w') os a w := by
    have key : ∀ (os : List Oper) (a : Act) (K : Act → World → Prop), stl P l.toArray (Cl X mS) K os a w → stl P l.toArray (Cl X mS) (fun a' w' => w' = w ∧ K a' w') os a w := by
      intro os
      induction os with
      | nil => intro a K h; exact ⟨rfl, h⟩
      | cons o r ih => intro a K h; obtain ⟨v, hy, hr⟩ := h; exact ⟨v, hy, ih _ K hr⟩
    exact key os a _ (h.out a w ⟨s.agr, hm'.1, hm'.2⟩)
  exact anyT_of_stl hlat hsel hQ ks D os a w (closed_of hcl) hkn ho hB hm' h1 (fun a' w' _ hk => (hk.2.out (hk.1 ▸ hm)).out)
theorem ja1T {g g' : Nat} {D D' : List Nat} (i : Nat) (hD : appO D [i] = some D') (hg : Nat.beq (g' + 1) g = true) (hf : fullB n (lst l.length D) = false) (hr : Region.ready .any l.toArray (lst l.length D) = [i]) (ho : nthO l i = some o)
    (h : J false X P l.toArray Q (WKeep X mS (WAnyT P l Q X mS n g' D')) [o] f m) : PJ X (WAnyT P l Q X mS n g D) f m := .of fun a w s => .of <| by
  obtain rfl := Nat.eq_of_beq_eq_true hg
  obtain rfl := appO_of hD
  refine anyT_all hf hr (by simp) fun j hj => ?_
  obtain rfl : j = i := by simpa using hj
  refine wpOp_mono (fun a' w' h3 => ⟨h3.cl, ?_⟩) (jop ho h a w s)
  have := h3.out.out
  unfold lst at this ⊢
  rwa [List.foldl_append] at this
theorem jfullT {g : Nat} {D : List Nat} (hf : fullB n (lst l.length D) = true) (h : PJ X (WAny P l Q X [] g D) f m) : PJ X (WAnyT P l Q X mS n g D) f m := .of fun a w s => .of (anyT_full hf (wpAny_of_held _ _ _ _ (h.out a w s).out))
theorem ranyT {id : Nat} (n : Nat) (mS : Mem) (hm : P.follows .mixedOrders = true) (h : PJ X (WAnyT P l Q X mS n l.length []) f m) : PJ X ((Code.region id l.toArray true).wp P Q) f m := .of fun a w s =>
  wp_region_any hm (any_of_anyT _ _ _ _ (h.out a _ ⟨s.agr, s.has.drawn _, s.evo.drawn _⟩).out)
end
end Go.Rx
namespace Go.Proofs.YtkehggbmpdacpaaGreatDoor.Pg
open Go.Rx hiding bt
open Go.RowKit Go.Proofs.YtkehggbmpdacpaaGreatDoor.Dec0 Go.Proofs.YtkehggbmpdacpaaGreatDoor.Lex0
def itC (ty : Nat) (er : Value) (lo hi : Nat) (sg : Value) (fb : Nat) (str : Bool) : List Value := [.int .i64 ty, er, .int .i64 lo, .int .i64 hi, sg, .int .u8 fb, .bool str]
structure RS where
  gR : Nat
  n : Nat
  cap : Nat
  ics : List Value
  rr : List Value
theorem rowv_one (r : Row) (n : Nat) : (r.val n).oneCell' = true := by cases r <;> rfl
def RS.val (q : RS) : Value := (Row.at q.gR q.cap q.rr).val q.n
structure QOk (X : Cx) (q : RS) : Prop where
  ok : (Row.at q.gR q.cap q.rr).ok 0 7 q.n q.ics
  may : X.may q.gR
theorem QOk.sub {X : Cx} {q : RS} (h : QOk X q) (n : Nat) (w : World) : QOk (X.sub n w) q := ⟨h.ok, Cx.may_sub h.may⟩
theorem QOk.up {X : Cx} {q : RS} {m : Mem} {n : Nat} {w : World} (hw : Cl X m w) (h : QOk (X.sub n w) q) : QOk X q := ⟨h.ok, Cx.may_up hw h.may⟩
def fbN (s : T) (p : Nat) : Nat := (s.getD p 0).toNat
def Row.rs (r : Row) (n : Nat) (ics : List Value) : RS := match r with
  | .at g cap rr => ⟨g, n, cap, ics, rr⟩
  | .nil => ⟨0, n, 0, ics, []⟩
def itmC (s : T) (it : Itm) : List Value := itC it.ty .nilIface it.low it.high (.slice none 0 0) (fbN s it.low) it.str
theorem Ok.cx {X : Cx} {H : Hd} (n : Nat) (D : List Deferred) (h : Ok X H) : Ok ⟨n, D, X.S, X.w0⟩ H := ⟨h.W, h.sz, h.big, h.mL, h.mM⟩
theorem QOk.cx {X : Cx} {q : RS} (n : Nat) (D : List Deferred) (h : QOk X q) : QOk ⟨n, D, X.S, X.w0⟩ q := ⟨h.ok, h.may⟩


def ipos (it : Itm) : Nat := match it.segs with
  | [] => it.low
  | p :: _ => p.1
def segC : List (Nat × Nat) → List Value
  | [] => []
  | p :: l => .int .i64 p.1 :: .int .i64 p.2 :: segC l
def SegAt (G : Mem) (sg : Value) (segs : List (Nat × Nat)) : Prop := (segs = [] ∧ sg = .slice none 0 0) ∨ ∃ g cap rr, segs ≠ [] ∧ sg = .slice (some ⟨g, 0, none⟩) segs.length cap ∧ (g, segC segs ++ rr, Bk.c 126) ∈ G
def ItC (s : T) (G : Mem) (it : Itm) (c : List Value) : Prop := ∃ er sg, c = itC it.ty er it.low it.high sg (fbN s (ipos it)) it.str ∧ (it.err = false → er = .nilIface) ∧ (it.err = true → ∃ v, er = .iface 171 v) ∧ SegAt G sg it.segs
inductive ICS (s : T) (G : Mem) : List Itm → List Value → Prop
  | nil : ICS s G [] []
  | cons {it c its cs} : ItC s G it c → ICS s G its cs → ICS s G (it :: its) (c ++ cs)
theorem ItC.mono {s : T} {G G' : Mem} {it : Itm} {c : List Value} (h : ItC s G it c) (hG : ∀ b ∈ G, b ∈ G') : ItC s G' it c := by
  obtain ⟨er, sg, h1, h2, h3, h4⟩ := h
  refine ⟨er, sg, h1, h2, h3, ?_⟩
  rcases h4 with h4 | ⟨g, cap, rr, h5, h6, h7⟩
  · exact .inl h4
  · exact .inr ⟨g, cap, rr, h5, h6, hG _ h7⟩
theorem ICS.mono {s : T} {G G' : Mem} {a : List Itm} {c : List Value} (h : ICS s G a c) (hG : ∀ b ∈ G, b ∈ G') : ICS s G' a c := by
  induction h with
  | nil => exact .nil
  | cons h1 _ ih => exact .cons (h1.mono hG) ih
def plainI (it : Itm) : Prop := it.segs = [] ∧ it.err = false
theorem ItC.plain {s : T} {G : Mem} {it : Itm} (h : plainI it) : ItC s G it (itmC s it) := by
  refine ⟨.nilIface, .slice none 0 0, ?_, fun _ => rfl, fun h1 => absurd h1 (by rw [h.2]; simp), .inl ⟨h.1, rfl⟩⟩
  unfold itmC ipos
  rw [h.1]
theorem ICS.plain {s : T} {G : Mem} : ∀ {l : List Itm}, (∀ it ∈ l, plainI it) → ICS s G l (l.flatMap (itmC s))
  | [], _ => .nil
  | it :: l, h => by rw [List.flatMap_cons]; exact .cons (.plain (h it (List.mem_cons_self ..))) (ICS.plain fun i hi => h i (List.mem_cons_of_mem _ hi))
def okv (l : List (ByteArray × Bool)) : List (ByteArray × Value) := l.map fun p => (p.1, .bool p.2)
structure StOk (X : Cx) (H : Hd) (x : Lx) (q : RS) (G : Mem) : Prop where
  ok : QOk X q
  n : q.n = x.items.length
  ics : ICS H.s G x.items q.ics
  p : x.pos ≤ H.s.length
  s : x.start ≤ x.pos
theorem StOk.sub {X : Cx} {H : Hd} {x : Lx} {q : RS} {G : Mem} (h : StOk X H x q G) (n : Nat) (w : World) : StOk (X.sub n w) H x q G := ⟨h.ok.sub n w, h.n, h.ics, h.p, h.s⟩
theorem StOk.up {X : Cx} {H : Hd} {x : Lx} {q : RS} {G : Mem} {m : Mem} {n : Nat} {w : World} (hw : Cl X m w) (h : StOk (X.sub n w) H x q G) : StOk X H x q G := ⟨QOk.up hw h.ok, h.n, h.ics, h.p, h.s⟩
theorem StOk.mv {X : Cx} {H : Hd} {x y : Lx} {q : RS} {G : Mem} (h : StOk X H x q G) (hi : y.items = x.items) (hp : y.pos ≤ H.s.length) (hs : y.start ≤ y.pos) : StOk X H y q G := ⟨h.ok, by rw [hi]; exact h.n, by rw [hi]; exact h.ics, hp, hs⟩

section
variable {X : Cx} {H : Hd} {E : Mem} (hX : Ok X H) (x : Lx) (st : Value) (W : Nat) (dv its : Value)
include hX
end


def alU (r : Int) : Bool := r == 95 || (Lib.isLetterU r || Lib.isDigitU r)
def envU (tr : T → T) : Env := ⟨alU, tr⟩





theorem pre_len {p l : T} (h : p.isPrefixOf l = true) : p.length ≤ l.length := (List.isPrefixOf_iff_prefix.1 h).length_le

def jo : Option St → Bool
  | some .json => true
  | some .org => true
  | _ => false




theorem ba_size (l : T) : (ba l).size = l.length := by simp [ba, ByteArray.size]
def SlB (w : World) (v : Value) (l : T) : Prop := Byt w v l ∨ (l = [] ∧ v = .slice none 0 0)
def usp (r : Nat) : Bool := Lib.isSpaceZ (r : Int)
def trimU (l : T) : T := if Lib.idxFunc usp false (ba l) = -1 then [] else (l.drop (Lib.idxFunc usp false (ba l)).toNat).take (Lib.rightEndF usp (ba (l.drop (Lib.idxFunc usp false (ba l)).toNat)))
def trE (s : T) : T := match s.reverse.dropWhile (fun c => isSp c.toNat) with
  | [] => []
  | d :: t => if 128 ≤ d.toNat then trimU (d :: t).reverse else (d :: t).reverse
def trS : T → T
  | [] => []
  | c :: r => if 128 ≤ c.toNat then trimU (c :: r) else if isSp c.toNat then trS r else trE (c :: r)
theorem SlB.below {w w' : World} {v : Value} {l : T} (h : SlB w v l) (hb : Below w.heap.size w w') : SlB w' v l := by
  rcases h with h | h
  · exact .inl (h.below hb (Nat.le_refl _))
  · exact .inr h
def envT : Env := envU trS

end Go.Proofs.YtkehggbmpdacpaaGreatDoor.Pg
namespace Go.Proofs.YtkehggbmpdacpaaGreatDoor.Lex0
open Go.Proofs.YtkehggbmpdacpaaGreatDoor.Dec0
def rank : St → Nat
  | .done => 0
  | .right => 0
  | .ident => 0
  | .left => 0
  | .comment => 0
  | .main => 1
  | .endsc => 1
  | .inside => 1
  | .pval => 2
  | .json => 2
  | .org => 2
  | .intro => 3
def Here (E : Env) (s : T) : St → Lx → Prop
  | .left, x => (if x.md then lmd else lno).isPrefixOf (s.drop x.pos) = true
  | .right, x => (rd x.md).isPrefixOf (s.drop x.pos) = true
  | .ident, x => E.al (rn (s.drop x.pos)) = true
  | .json, x => ∃ r, s.drop x.pos = 123 :: r
  | .org, x => ∃ r, s.drop x.pos = 35 :: r
  | _, _ => True
structure Good (E : Env) (s : T) (st : St) (x : Lx) : Prop where
  p : x.pos ≤ s.length
  sp : x.start ≤ x.pos
  h : Here E s st x
structure Mv (s : T) (x y : Lx) : Prop where
  le : x.pos ≤ y.pos
  p : y.pos ≤ s.length
  s : y.start ≤ y.pos
  its : ∃ k, y.items = x.items ++ k ∧ k.length ≤ 6
  stp : y.step ≤ x.step + 1
  cl : y.closing ≤ x.closing + 1
def Fwd (E : Env) (s : T) (st : St) (x : Lx) (r : Res) : Prop := Mv s x r.1 ∧ ∀ st', r.2 = some st' → Here E s st' r.1 ∧ 4 * (s.length - r.1.pos) + rank st' < 4 * (s.length - x.pos) + rank st
theorem pre_len {p l : T} (h : p.isPrefixOf l = true) : p.length ≤ l.length := (List.isPrefixOf_iff_prefix.1 h).length_le
theorem rd3 (md : Bool) : (rd md).length = 3 := by cases md <;> rfl
theorem lf3 (md : Bool) : (if md then lmd else lno : T).length = 3 := by cases md <;> rfl
theorem Mv.ofI {s : T} {x y : Lx} (h1 : x.pos ≤ y.pos) (h2 : y.pos ≤ s.length) (h3 : y.start ≤ y.pos) (k : List Itm) (h4 : y.items = x.items ++ k) (h5 : k.length ≤ 6) (h6 : y.step ≤ x.step + 1) (h7 : y.closing ≤ x.closing + 1) : Mv s x y := ⟨h1, h2, h3, ⟨k, h4, h5⟩, h6, h7⟩
theorem Fwd.of {E : Env} {s : T} {st : St} {x x' : Lx} {r : Res} (h : Fwd E s st x' r) (h1 : x'.pos = x.pos) (h2 : x'.items = x.items) (h3 : x'.step = x.step) (h4 : x'.closing = x.closing) : Fwd E s st x r := by
  obtain ⟨⟨a1, a2, a3, ⟨k, a4, a5⟩, a6, a7⟩, b⟩ := h
  rw [h1] at b a1
  rw [h2] at a4
  rw [h3] at a6
  rw [h4] at a7
  exact ⟨⟨a1, a2, a3, ⟨k, a4, a5⟩, a6, a7⟩, b⟩
section
variable {E : Env} {s : T} {dv : Bool} {x : Lx} (hp : x.pos ≤ s.length) (hs : x.start ≤ x.pos)
include hp hs
end
section
variable {E : Env} {s : T} {dv : Bool} {x : Lx} (hp : x.pos ≤ s.length) (hs : x.start ≤ x.pos)
include hp hs
theorem Mv.after {y z : Lx} {n m : Nat} (h1 : x.pos ≤ y.pos) (hi : y.items = x.items) (h2 : y.step ≤ x.step) (h3 : y.closing ≤ x.closing) (h : Mv s y z) : Mv s x z := by
  obtain ⟨a1, a2, a3, ⟨k, a4, a5⟩, a6, a7⟩ := h
  exact .ofI (by omega) a2 a3 k (by rw [a4, hi]) a5 (by omega) (by omega)
end
inductive RunsN (E : Env) (s : T) (dv : Bool) : Nat → St → Lx → List Itm → Prop
  | stop {n st x y} : step E s dv st x = (y, none) → RunsN E s dv n st x y.items
  | go {n st x st' y l} : step E s dv st x = (y, some st') → RunsN E s dv n st' y l → RunsN E s dv (n + 1) st x l
theorem RunsN.runs {E : Env} {s : T} {dv : Bool} {n : Nat} {st : St} {x : Lx} {l : List Itm} (h : RunsN E s dv n st x l) : Runs E s dv st x l := by
  induction h with
  | stop h => exact .stop h
  | go h _ ih => exact .go h ih
noncomputable def parse (E : Env) (s : T) (front dv : Bool) : List Itm := open Classical in if h : ∃ l, Parses E s front dv l then h.choose else []
theorem parse_of {E : Env} {s : T} {front dv : Bool} {l : List Itm} (h : Parses E s front dv l) : parse E s front dv = l := by
  unfold parse
  have h' : ∃ l, Parses E s front dv l := ⟨l, h⟩
  rw [dif_pos h']
  exact Runs.det h'.choose_spec h
inductive Steps (E : Env) (s : T) (dv : Bool) : St → Lx → St → Lx → Prop
  | refl {st x} : Steps E s dv st x st x
  | go {st x st' y st'' z} : step E s dv st x = (y, some st') → Steps E s dv st' y st'' z → Steps E s dv st x st'' z
theorem Steps.one {E : Env} {s : T} {dv : Bool} {st st' : St} {x y : Lx} (h : step E s dv st x = (y, some st')) : Steps E s dv st x st' y := .go h .refl
theorem Steps.trans {E : Env} {s : T} {dv : Bool} {a b c : St} {x y z : Lx} (h : Steps E s dv a x b y) (k : Steps E s dv b y c z) : Steps E s dv a x c z := by
  induction h with
  | refl => exact k
  | go h1 _ ih => exact .go h1 (ih k)
theorem Steps.runs {E : Env} {s : T} {dv : Bool} {a b : St} {x y : Lx} {l : List Itm} (h : Steps E s dv a x b y) (k : Runs E s dv b y l) : Runs E s dv a x l := by
  induction h with
  | refl => exact k
  | go h1 _ ih => exact .go h1 (ih k)
section
variable {pre s : T} {k : Nat} {I : List Itm} {o : Bool} (hk : pre.length = k)
include hk
def mainSt : St → Bool
  | .intro => false
  | .json => false
  | .org => false
  | _ => true
end
def isW (c : UInt8) : Bool := decide (48 ≤ c.toNat) && decide (c.toNat ≤ 57) || decide (65 ≤ c.toNat) && decide (c.toNat ≤ 90) || decide (97 ≤ c.toNat) && decide (c.toNat ≤ 122) || c.toNat == 95
structure EA (E : Env) : Prop where
  al : ∀ c : UInt8, c.toNat < 128 → E.al (c.toNat : Int) = isW c
  neg : E.al (-1) = false
theorem isW_lt {c : UInt8} (h : isW c = true) : c.toNat < 128 := by
  unfold isW at h
  simp only [Bool.or_eq_true, Bool.and_eq_true, decide_eq_true_eq, beq_iff_eq] at h
  omega
theorem isSp_lt {c : UInt8} (h : isSp c.toNat = true) : c.toNat < 128 := by
  unfold isSp at h
  simp only [Bool.or_eq_true, beq_iff_eq] at h
  omega
theorem rd_no {md : Bool} {c : UInt8} {r : T} (h1 : c.toNat ≠ 37) (h2 : c.toNat ≠ 62) : (rd md).isPrefixOf (c :: r) = false := by
  have h1' : ¬ (37 : UInt8) = c := fun h => h1 (by rw [← h]; rfl)
  have h2' : ¬ (62 : UInt8) = c := fun h => h2 (by rw [← h]; rfl)
  cases md
  · show ((62 : UInt8) == c && _) = false
    rw [show ((62 : UInt8) == c) = false from by simpa using h2']; rfl
  · show ((37 : UInt8) == c && _) = false
    rw [show ((37 : UInt8) == c) = false from by simpa using h1']; rfl
theorem pre_app (p r : T) : p.isPrefixOf (p ++ r) = true := List.isPrefixOf_iff_prefix.2 (List.prefix_append _ _)
theorem drop_more {s : T} {p : Nat} {u r : T} (h : s.drop p = u ++ r) : s.drop (p + u.length) = r := by rw [← List.drop_drop, h, List.drop_left]
theorem drop_c {s : T} {p : Nat} {c : UInt8} {r : T} (h : s.drop p = c :: r) : s.drop (p + 1) = r := by rw [← List.drop_drop, h]; rfl
theorem cut_at {s : T} {p : Nat} {u r : T} (h : s.drop p = u ++ r) : cut s p (p + u.length) = u := by unfold cut; rw [h, show p + u.length - p = u.length by omega, List.take_left]
theorem id_run {E : Env} : ∀ (u : T) {r : T} (n : Nat) (inl : Bool), (∀ c ∈ u, c.toNat < 128 ∧ idR E (c.toNat : Int) = true) → idLoop E (u ++ r) n inl = idLoop E r (n + u.length) inl := by
  intro u
  induction u with
  | nil => intro r n inl _; rfl
  | cons c u ih =>
    intro r n inl h
    obtain ⟨h1, h2⟩ := h c (List.mem_cons_self ..)
    show idLoop E (c :: (u ++ r)) n inl = _
    rw [idLoop, dif_pos (by simp), rn_ascii h1, if_pos h2, wd_ascii h1]
    show idLoop E (u ++ r) (n + 1) inl = _
    rw [ih (n + 1) inl (fun c hc => h c (List.mem_cons_of_mem _ hc)), List.length_cons, Nat.add_assoc, Nat.add_comm 1]
theorem id_stop {E : Env} {c : UInt8} {r : T} (n : Nat) (inl : Bool) (h1 : c.toNat < 128) (h2 : idR E (c.toNat : Int) = false) (h3 : c.toNat ≠ 46) : idLoop E (c :: r) n inl = (false, n, inl) := by
  rw [idLoop, dif_pos (by simp), rn_ascii h1, if_neg (by rw [h2]; simp), if_neg (by omega)]
theorem run_run {p : Int → Bool} : ∀ (u : T) {r : T}, (∀ c ∈ u, c.toNat < 128 ∧ p (c.toNat : Int) = true) → runN p (u ++ r) = u.length + runN p r := by
  intro u
  induction u with
  | nil => intro r _; simp
  | cons c u ih =>
    intro r h
    obtain ⟨h1, h2⟩ := h c (List.mem_cons_self ..)
    show runN p (c :: (u ++ r)) = _
    rw [runN, dif_pos ⟨by simp, by rw [rn_ascii h1]; exact h2⟩, wd_ascii h1]
    show 1 + runN p (u ++ r) = _
    rw [ih (fun c hc => h c (List.mem_cons_of_mem _ hc)), List.length_cons]
    omega
theorem run_stop {p : Int → Bool} {r : T} (h : p (rn r) = false) : runN p r = 0 := by rw [runN, dif_neg (fun h' => by rw [h] at h'; cases h'.2)]
def escT (v : T) : T := v.flatMap fun c => if c = 34 then [92, 34] else [c]
theorem escT_plain {v : T} (h : ∀ c ∈ v, c ≠ 34) : escT v = v := by
  induction v with
  | nil => rfl
  | cons c v ih => show (if c = 34 then [92, 34] else [c]) ++ escT v = _; rw [if_neg (h c (List.mem_cons_self ..)), ih (fun c hc => h c (List.mem_cons_of_mem _ hc))]; rfl
section
variable {E : Env} {s : T} {dv : Bool} {x : Lx}
theorem in_right {r : T} (hd : s.drop x.pos = rd x.md ++ r) : step E s dv .inside x = (x, some .right) := by
  show inside E s x = _
  unfold inside
  dsimp only
  rw [hd, if_pos (pre_app _ _)]
theorem right_main : step E s dv .right x = ({ x with closing := 0, items := x.items ++ [mk (if x.md then 11 else 9) x.start (x.pos + 3)], pos := x.pos + 3, start := x.pos + 3 }, some .main) := rfl
theorem in_sp1 {c : UInt8} {r : T} (hd : s.drop x.pos = c :: r) (hc : isSp c.toNat = true) : step E s dv .inside x = (ign (mv 1 x), some .inside) := by
  have hl := isSp_lt hc
  have hn : c.toNat ≠ 37 ∧ c.toNat ≠ 62 := by
    unfold isSp at hc
    simp only [Bool.or_eq_true, beq_iff_eq] at hc
    omega
  show inside E s x = _
  unfold inside
  dsimp only
  rw [hd, if_neg (by rw [rd_no hn.1 hn.2]; simp), if_neg (by simp), rn_ascii hl, if_pos (show isSp (Int.toNat (c.toNat : Int)) = true from hc)]
theorem in_sp : ∀ (u : T) {x : Lx} {r : T}, x.start = x.pos → s.drop x.pos = u ++ r → (∀ c ∈ u, isSp c.toNat = true) → Steps E s dv .inside x .inside { x with pos := x.pos + u.length, start := x.pos + u.length } := by
  intro u
  induction u with
  | nil =>
    intro x r hs _ _
    have : ({ x with pos := x.pos + ([] : T).length, start := x.pos + ([] : T).length } : Lx) = x := by
      cases x
      dsimp only at hs
      subst hs
      rfl
    rw [this]
    exact .refl
  | cons c u ih =>
    intro x r hs hd hu
    refine .go (in_sp1 hd (hu c (List.mem_cons_self ..))) ?_
    have h1 := ih (x := ign (mv 1 x)) (r := r) rfl (drop_c hd) (fun c hc => hu c (List.mem_cons_of_mem _ hc))
    have : ({ ign (mv 1 x) with pos := (ign (mv 1 x)).pos + u.length, start := (ign (mv 1 x)).pos + u.length } : Lx) = { x with pos := x.pos + (c :: u).length, start := x.pos + (c :: u).length } := by
      show ({ x with pos := x.pos + 1 + u.length, start := x.pos + 1 + u.length } : Lx) = _
      rw [show x.pos + 1 + u.length = x.pos + (c :: u).length from by rw [List.length_cons]; omega]
    rw [this] at h1
    exact h1
theorem in_other {c : UInt8} {r : T} (hd : s.drop x.pos = c :: r) (hl : c.toNat < 128) (h1 : c.toNat ≠ 37) (h2 : c.toNat ≠ 62) (h3 : isSp c.toNat = false) (h4 : c.toNat ≠ 61) (h5 : c.toNat ≠ 47) (h6 : c.toNat ≠ 92) :
    step E s dv .inside x = if 0 < x.step ∧ (alh E (c.toNat : Int) = true ∨ (c.toNat : Int) = 34 ∨ (c.toNat : Int) = 96) then param E s false x else if E.al (c.toNat : Int) then (x, some .ident) else fail (mv 1 x) := by
  show inside E s x = _
  unfold inside
  dsimp only
  rw [hd, if_neg (by rw [rd_no h1 h2]; simp), if_neg (by simp), rn_ascii hl, if_neg (by rw [show Int.toNat (c.toNat : Int) = c.toNat from rfl, h3]; simp), if_neg (by omega), if_neg (by omega), if_neg (by omega), wd_ascii hl]
theorem isW_no {c : UInt8} (h : isW c = true) : c.toNat ≠ 37 ∧ c.toNat ≠ 62 ∧ isSp c.toNat = false ∧ c.toNat ≠ 61 ∧ c.toNat ≠ 47 ∧ c.toNat ≠ 92 ∧ c.toNat ≠ 34 ∧ c.toNat ≠ 96 := by
  unfold isW at h
  simp only [Bool.or_eq_true, Bool.and_eq_true, decide_eq_true_eq, beq_iff_eq] at h
  refine ⟨by omega, by omega, ?_, by omega, by omega, by omega, by omega, by omega⟩
  unfold isSp
  simp only [Bool.or_eq_false_iff, beq_eq_false_iff_ne]
  omega
def isN (c : UInt8) : Bool := isW c || c.toNat == 45 || c.toNat == 47
theorem isN_id (hE : EA E) {c : UInt8} (h : isN c = true) : c.toNat < 128 ∧ idR E (c.toNat : Int) = true := by
  unfold isN at h
  simp only [Bool.or_eq_true, beq_iff_eq] at h
  unfold idR alh
  rcases h with (h | h) | h
  · have hl := isW_lt h
    rw [hE.al c hl, h]
    exact ⟨hl, rfl⟩
  · rw [h]; exact ⟨by decide, by simp⟩
  · rw [h]; exact ⟨by decide, by simp⟩
theorem sp_id (hE : EA E) : idR E (((32 : UInt8).toNat : Nat) : Int) = false := by
  unfold idR alh
  rw [hE.al 32 (by decide)]
  rfl
theorem id_name (hE : EA E) {u r : T} (hu : ∀ c ∈ u, isN c = true) : idLoop E (u ++ 32 :: r) 0 false = (false, u.length, false) := by
  rw [id_run u 0 false (fun c hc => isN_id hE (hu c hc)), id_stop _ _ (by decide) (sp_id hE) (by decide), Nat.zero_add]
theorem in_ident (hE : EA E) {c : UInt8} {r : T} (hd : s.drop x.pos = c :: r) (hc : isW c = true) (hst : x.step = 0) : step E s dv .inside x = (x, some .ident) := by
  obtain ⟨h1, h2, h3, h4, h5, h6, _⟩ := isW_no hc
  have hl := isW_lt hc
  rw [in_other hd hl h1 h2 h3 h4 h5 h6, if_neg (fun h => by rw [hst] at h; exact absurd h.1 (by decide)), hE.al c hl, if_pos hc]
def named_ (x : Lx) (inl : Bool) (w : T) : Lx := { x with pos := x.pos + w.length, start := x.pos + w.length, inl := inl, closing := 0, name := ba w, step := x.step + 1, items := x.items ++ [mk (if inl then 14 else 13) x.start (x.pos + w.length)], op := oset (ba w) true (if 0 < x.closing then oset (ba w) false x.op else x.op) }
theorem ident_step {w r : T} {inl : Bool} (hs : x.start = x.pos) (hd : s.drop x.pos = w ++ r) (hq : idLoop E (s.drop x.pos) 0 x.inl = (false, w.length, inl)) (ho : x.closing = 0 ∨ oget (ba w) x.op = true) : step E s dv .ident x = (named_ x inl w, some (if 0 < x.closing then .endsc else .inside)) := by
  show ident E s x = _
  unfold ident
  rw [hq]
  dsimp only
  rw [if_neg (by simp), hs, cut_at hd, if_neg (fun h => by rcases ho with h0 | h0; omega; rw [h0] at h; cases h.2)]
  unfold named_ emit
  rw [hs]
theorem in_name (hE : EA E) {w r : T} (hs : x.start = x.pos) (hi : x.inl = false) (hst : x.step = 0) (hd : s.drop x.pos = w ++ 32 :: r) (hw : w ≠ []) (h0 : ∀ c, w.head? = some c → isW c = true) (hn : ∀ c ∈ w, isN c = true) (ho : x.closing = 0 ∨ oget (ba w) x.op = true) :
    Steps E s dv .inside x (if 0 < x.closing then .endsc else .inside) (named_ x false w) := by
  cases w with
  | nil => exact absurd rfl hw
  | cons c w => exact .go (in_ident hE hd (h0 c rfl) hst) (.one (ident_step hs hd (by rw [hd, hi]; exact id_name hE hn) ho))
def isP (c : UInt8) : Bool := isW c || c.toNat == 45 || c.toNat == 46
theorem isP_par (hE : EA E) {c : UInt8} (h : isP c = true) : c.toNat < 128 ∧ parR E (c.toNat : Int) = true := by
  unfold isP at h
  simp only [Bool.or_eq_true, beq_iff_eq] at h
  unfold parR alh
  rcases h with (h | h) | h
  · have hl := isW_lt h
    rw [hE.al c hl, h]
    exact ⟨hl, rfl⟩
  · rw [h]; exact ⟨by decide, by simp⟩
  · rw [h]; exact ⟨by decide, by simp⟩
theorem par_no (hE : EA E) {c : UInt8} (hl : c.toNat < 128) (h : isP c = false) : parR E (c.toNat : Int) = false := by
  unfold isP at h
  simp only [Bool.or_eq_false_iff, beq_eq_false_iff_ne] at h
  unfold parR alh
  rw [hE.al c hl, h.1.1]
  simp only [Bool.false_or, Bool.or_eq_false_iff, beq_eq_false_iff_ne]
  omega
theorem run_par (hE : EA E) {w r : T} {c : UInt8} (hw : ∀ c ∈ w, isP c = true) (hl : c.toNat < 128) (hc : isP c = false) : runN (parR E) (w ++ c :: r) = w.length := by
  rw [run_run w (fun c h => isP_par hE (hw c h)), run_stop (by rw [rn_ascii hl]; exact par_no hE hl hc), Nat.add_zero]
theorem in_bare (hE : EA E) {a : UInt8} {w r : T} {c : UInt8} (hs : x.start = x.pos) (hst : 0 < x.step) (hd : s.drop x.pos = (a :: w) ++ c :: r) (ha : isW a = true) (hw : ∀ c ∈ w, isP c = true) (hl : c.toNat < 128) (hc : isP c = false) (hpar : if c = 61 then x.par ≠ 1 else x.par ≠ 2) :
    step E s dv .inside x = ({ x with pos := x.pos + (a :: w).length, start := x.pos + (a :: w).length, par := if x.par = 0 then (if c = 61 then 2 else 1) else x.par, items := x.items ++ [mk 15 x.pos (x.pos + (a :: w).length)] }, some .inside) := by
  obtain ⟨h1, h2, h3, h4, h5, h6, h7, h8⟩ := isW_no ha
  have hal := isW_lt ha
  have hE1 : E.al (a.toNat : Int) = true := by rw [hE.al a hal]; exact ha
  rw [in_other hd hal h1 h2 h3 h4 h5 h6, if_pos ⟨hst, .inl (by unfold alh; rw [hE1]; rfl)⟩]
  have hP : ∀ c ∈ a :: w, isP c = true := fun c h => by
    rcases List.mem_cons.1 h with h | h
    · subst h; unfold isP; rw [ha]; rfl
    · exact hw c h
  have hr := run_par hE (r := r) hP hl hc
  have h9 : rn (s.drop x.pos) ≠ 34 ∧ rn (s.drop x.pos) ≠ 96 := by
    rw [hd, List.cons_append, rn_ascii hal]
    omega
  have hce : (rn (c :: r) = 61) ↔ c = 61 := by
    rw [rn_ascii hl]
    constructor
    · intro h; exact UInt8.toNat_inj.1 (by show c.toNat = 61; omega)
    · rintro rfl; rfl
  unfold param
  dsimp only
  rw [if_neg (fun h => by rcases h with h | h; exact h9.1 h; exact h9.2 h.1), if_neg h9.2]
  rw [hd, hr, List.drop_left, decide_eq_true (show 0 < (a :: w).length from Nat.succ_pos _)]
  simp only [Bool.true_and, hce, decide_eq_true_eq, decide_eq_false_iff_not]
  by_cases hp : x.par = 0
  · rw [if_pos hp, if_pos hp]
    unfold emit mv
    rw [hs]
  · rw [if_neg hp, if_neg hp]
    by_cases hc2 : c = 61
    · rw [if_pos hc2] at hpar
      rw [if_neg (fun h => hpar h.2), if_neg (fun h => h.1 hc2)]
      unfold emit mv
      rw [hs]
    · rw [if_neg hc2] at hpar
      rw [if_neg (fun h => hc2 h.1), if_neg (fun h => hpar h.2)]
      unfold emit mv
      rw [hs]
end
end Go.Proofs.YtkehggbmpdacpaaGreatDoor.Lex0
namespace Go.Proofs.YtkehggbmpdacpaaGreatDoor.Txt0
open Go Go.Lib Go.Proofs.YtkehggbmpdacpaaGreatDoor.Dec0
def hasT (x : T) : T → Bool
  | [] => x.isEmpty
  | c :: r => x.isPrefixOf (c :: r) || hasT x r
theorem hasT_short (x : T) : ∀ l : T, l.length < x.length → hasT x l = false
  | [], h => by cases x with
    | nil => simp at h
    | cons a b => rfl
  | c :: r, h => by
    rw [hasT, hasT_short x r (by simp at h; omega), Bool.or_false]
    cases hp : x.isPrefixOf (c :: r) with
    | false => rfl
    | true =>
      have := (List.isPrefixOf_iff_prefix.1 hp).length_le
      simp at h this
      omega
theorem hasT_drop (x l : T) (hx : x ≠ []) : hasT x l = (x.isPrefixOf l || hasT x (l.drop 1)) := by
  cases l with
  | nil =>
    cases x with
    | nil => exact absurd rfl hx
    | cons a b => rfl
  | cons c r => rfl
theorem pre_take {x l : T} : x.isPrefixOf l = decide (l.take x.length = x) := by
  rw [Bool.eq_iff_iff, decide_eq_true_eq, List.isPrefixOf_iff_prefix]
  exact ⟨fun h => (List.prefix_iff_eq_take.1 h).symm, fun h => h ▸ List.take_prefix _ _⟩
theorem data_inj {a b : ByteArray} : a = b ↔ a.data.toList = b.data.toList := by
  constructor
  · rintro rfl; rfl
  · intro h
    cases a; cases b
    simp at h
    rw [h]
theorem ext_list (s : ByteArray) (a b : Nat) : (s.extract a b).data.toList = (s.data.toList.drop a).take (b - a) := by
  simp [List.drop_take]
theorem size_list (s : ByteArray) : s.data.toList.length = s.size := by rw [Array.length_toList]; rfl
theorem piece_eq (s x : ByteArray) (j k : Nat) (hk : k = j + x.size) : decide (s.extract j k = x) = x.data.toList.isPrefixOf (s.data.toList.drop j) := by
  subst hk
  rw [pre_take]
  congr 1
  rw [data_inj, ext_list, size_list, show j + x.size - j = x.size by omega]
end Go.Proofs.YtkehggbmpdacpaaGreatDoor.Txt0
namespace Go.Proofs.YtkehggbmpdacpaaGreatDoor.Lex0
open Go.Proofs.YtkehggbmpdacpaaGreatDoor.Dec0 Go.Proofs.YtkehggbmpdacpaaGreatDoor.Txt0
theorem idx_cons (p : T) (c : UInt8) (r : T) : idx p (c :: r) = if p.isPrefixOf (c :: r) then some 0 else (idx p r).map (· + 1) := by rw [idx]
theorem idx_skip {k : UInt8} {p : T} : ∀ (u : T) {v : T}, (∀ c ∈ u, c ≠ k) → idx (k :: p) (u ++ v) = (idx (k :: p) v).map (· + u.length) := by
  intro u
  induction u with
  | nil => intro v _; cases h : idx (k :: p) v <;> simp [h]
  | cons c u ih =>
    intro v h
    have hc := h c (List.mem_cons_self ..)
    show idx (k :: p) (c :: (u ++ v)) = _
    rw [idx_cons, if_neg, ih (fun c hc => h c (List.mem_cons_of_mem _ hc))]
    · cases idx (k :: p) v <;> simp [Nat.add_assoc]
    · show ¬ ((k == c && _) = true)
      rw [show (k == c) = false from by simpa using fun e => hc e.symm]
      simp
theorem idx_here {p r : T} (hp : p ≠ []) : idx p (p ++ r) = some 0 := by
  cases p with
  | nil => exact absurd rfl hp
  | cons a p => show idx (a :: p) (a :: (p ++ r)) = _; rw [idx_cons, if_pos (show (a :: p).isPrefixOf (a :: (p ++ r)) = true from pre_app (a :: p) r)]
theorem idx_nil {p : T} (hp : p ≠ []) : idx p [] = none := by rw [idx, if_neg hp]
def divr1 (org : Bool) : T := (divr org).tail
theorem divr_cons (org : Bool) : divr org = (if org then 35 else 60) :: divr1 org := by cases org <;> rfl
theorem divr_ne (org : Bool) : divr org ≠ [] := by cases org <;> simp [divr]
theorem lsc_ne : lsc ≠ [] := by simp [lsc]
section
variable {E : Env} {s : T} {dv : Bool} {x : Lx}
theorem found_left {u r : T} (hd : s.drop x.pos = u ++ 123 :: 123 :: r) (h1 : ∀ c ∈ u, c ≠ 123) (h2 : dvOn dv x = true → ∀ c ∈ u, c ≠ if x.org then 35 else 60) : found s dv x = some u.length := by
  have ha : idx lsc (s.drop x.pos) = some u.length := by
    rw [hd, show lsc = 123 :: [123] from rfl, idx_skip u h1]
    rw [show (123 :: 123 :: r : T) = (123 :: [123]) ++ r from rfl, idx_here (by simp)]
    simp
  unfold found
  rw [ha]
  cases ho : dvOn dv x with
  | false => rfl
  | true =>
    rw [if_pos rfl, hd, divr_cons, idx_skip u (h2 ho), idx_cons, if_neg (by cases x.org <;> simp [List.isPrefixOf])]
    cases idx _ (123 :: r) with
    | none => rfl
    | some b => show some (min u.length (b + 1 + u.length)) = _; rw [Nat.min_eq_left (by omega)]
def opn (s : T) (a b : Nat) : List Itm := if a < b then txts s a b else []
theorem main_found {q : Nat} (hf : found s dv x = some q) : main E s dv x = piece E s dv { x with pos := x.pos + q, start := if x.start < x.pos + q then x.pos + q else x.start, items := x.items ++ opn s x.start (x.pos + q) } := by
  have hb : ¬ s.length ≤ x.pos := fun h => by
    have : s.drop x.pos = [] := List.drop_eq_nil_of_le h
    unfold found at hf
    rw [this, idx_nil lsc_ne] at hf
    split at hf
    · rw [idx_nil (divr_ne _)] at hf; cases hf
    · cases hf
  unfold main
  rw [if_neg hb, hf]
  dsimp only
  unfold opn
  by_cases h : x.start < x.pos + q
  · rw [if_pos h, if_pos h, if_pos h]; rfl
  · rw [if_neg h, if_neg h, if_neg h]; unfold mv; rw [List.append_nil]
theorem go_left {q : Nat} {md : Bool} {r : T} (hf : found s dv x = some q) (hs : x.start ≤ x.pos) (hd : s.drop (x.pos + q) = (if md then lmd else lno) ++ r) (hi : x.inl = true → inlOk E r x.name = true) :
    step E s dv .main x = ({ x with pos := x.pos + q, start := x.pos + q, items := x.items ++ opn s x.start (x.pos + q), md := md }, some .left) := by
  have hst : (if x.start < x.pos + q then x.pos + q else x.start) = x.pos + q := by split; rfl; omega
  show main E s dv x = _
  rw [main_found hf, hst]
  unfold piece
  dsimp only
  have hm : lmd.isPrefixOf (s.drop (x.pos + q)) = md := by
    rw [hd]
    cases md <;> rfl
  have hor : (lmd.isPrefixOf (s.drop (x.pos + q)) || lno.isPrefixOf (s.drop (x.pos + q))) = true := by
    rw [hd]
    cases md <;> rfl
  have h3 : (s.drop (x.pos + q)).drop 3 = r := by
    rw [hd]
    cases md <;> rfl
  rw [if_pos hor, hm, h3]
  cases hi2 : x.inl with
  | false => rfl
  | true => rw [hi hi2]; rfl
theorem left_in {r : T} (hd : s.drop (x.pos + 3) = r) (hc : [47, 42].isPrefixOf r = false) : step E s dv .left x = ({ x with pos := x.pos + 3, start := x.pos + 3, step := 0, par := 0, items := x.items ++ [mk (if x.md then 10 else 8) x.start (x.pos + 3)] }, some .inside) := by
  show left s x = _
  unfold left
  rw [hd, hc, if_neg (by simp)]
  rfl
theorem drop3 {md : Bool} {p : Nat} {r : T} (hd : s.drop p = (if md then lmd else lno) ++ r) : s.drop (p + 3) = r := by
  have h := drop_more hd
  rw [lf3] at h
  exact h
theorem go_in {q : Nat} {md : Bool} {r : T} (hf : found s dv x = some q) (hs : x.start ≤ x.pos) (hd : s.drop (x.pos + q) = (if md then lmd else lno) ++ r) (hi : x.inl = true → inlOk E r x.name = true) (hc : [47, 42].isPrefixOf r = false) :
    Steps E s dv .main x .inside { x with pos := x.pos + q + 3, start := x.pos + q + 3, md := md, step := 0, par := 0, items := x.items ++ opn s x.start (x.pos + q) ++ [mk (if md then 10 else 8) (x.pos + q) (x.pos + q + 3)] } :=
  .go (go_left hf hs hd hi) (.one (left_in (drop3 hd) hc))
theorem go_end (hs : x.start ≤ x.pos) (hp : x.pos ≤ s.length) (hf : s.length ≤ x.pos ∨ found s dv x = none) : Runs E s dv .main x (x.items ++ opn s x.start s.length ++ [mk 1 s.length s.length]) := by
  have key : ∀ y : Lx, y.pos = s.length → y.start = x.start → y.items = x.items → Runs E s dv .done y (x.items ++ opn s x.start s.length ++ [mk 1 s.length s.length]) := fun y h1 h2 h3 => by
    have : step E s dv .done y = ((done s y).1, none) := rfl
    have h4 := Runs.stop (E := E) (dv := dv) this
    have h5 : (done s y).1.items = x.items ++ opn s x.start s.length ++ [mk 1 s.length s.length] := by
      unfold done opn
      rw [h1, h2]
      by_cases h : x.start < s.length
      · rw [if_pos h, if_pos h]
        show (y.items ++ txts s y.start y.pos) ++ [mk 1 y.pos y.pos] = _
        rw [h1, h2, h3]
      · rw [if_neg h, if_neg h]
        show y.items ++ [mk 1 y.start y.pos] = _
        rw [h1, h2, h3, List.append_nil, show x.start = s.length by omega]
    rw [h5] at h4
    exact h4
  by_cases h : s.length ≤ x.pos
  · refine .go (st' := .done) (y := x) ?_ (key x (by omega) rfl rfl)
    show main E s dv x = _
    unfold main
    rw [if_pos h]
  · refine .go (st' := .done) (y := { x with pos := s.length }) ?_ (key _ rfl rfl rfl)
    show main E s dv x = _
    unfold main
    rw [if_neg h, hf.resolve_left h]
end
theorem txts_cut {s : T} {a b : Nat} {u : T} (h : cut s a b = u) : txts s a b = (let t := u.reverse; let k := (t.takeWhile isBl).length; if t ≠ [] ∧ k = t.length then [mk 17 a b] else if 0 < k ∧ (t.drop k).head? = some 10 then [mk 18 a (b - k), mk 17 (b - k) b] else [mk 18 a b]) := by
  unfold txts
  rw [h]
structure Kp (s : T) (x y : Lx) : Prop where
  o : y.org = x.org
  c : x.chk = true → y.chk = true
  n : y.name = x.name ∨ ∃ a b, y.name = ba (cut s a b)
theorem Kp.refl (s : T) (x : Lx) : Kp s x x := ⟨rfl, fun h => h, .inl rfl⟩
theorem Kp.trans {s : T} {x y z : Lx} (h : Kp s x y) (k : Kp s y z) : Kp s x z := ⟨k.o.trans h.o, fun e => k.c (h.c e), by
  rcases k.n with h1 | h1
  · rw [h1]; exact h.n
  · exact .inr h1⟩
end Go.Proofs.YtkehggbmpdacpaaGreatDoor.Lex0
namespace Go.Proofs.YtkehggbmpdacpaaGreatDoor.Pg
open Go.Rx hiding bt
open Go.RowKit Go.Proofs.YtkehggbmpdacpaaGreatDoor.Dec0 Go.Proofs.YtkehggbmpdacpaaGreatDoor.Lex0
structure Sec where
  gh : Nat
  g1 : Nat
  g2 : Nat
  gk : Nat
  kn : Nat
  kc : Nat
  kcs : List Value
  dv : Bool
  all : Bool
  s1 : Bool
  s2 : Bool
def hB (dv : Bool) (S : Sec) : Nat × List Value × Bk := (S.gh, [.pointer (some ⟨S.g1, 0, none⟩), bif dv then .pointer (some ⟨S.g2, 0, none⟩) else .pointer none], .c 137)
structure SecMay (X : Cx) (H : Hd) (S : Sec) : Prop where
  s : X.may H.gS
  m1 : X.may S.g1
  m2 : X.may S.g2
  my : X.may S.gk
  kl : S.kcs.length = S.kc
  kx : S.kc ≤ maxLen
theorem SecMay.sub {X : Cx} {H : Hd} {S : Sec} (h : SecMay X H S) (n : Nat) (w : World) : SecMay (X.sub n w) H S := ⟨Cx.may_sub h.s, Cx.may_sub h.m1, Cx.may_sub h.m2, Cx.may_sub h.my, h.kl, h.kx⟩
theorem SecMay.up {X : Cx} {H : Hd} {S : Sec} {m : Mem} {n : Nat} {w : World} (hw : Cl X m w) (h : SecMay (X.sub n w) H S) : SecMay X H S := ⟨Cx.may_up hw h.s, Cx.may_up hw h.m1, Cx.may_up hw h.m2, Cx.may_up hw h.my, h.kl, h.kx⟩
def idxD (s : T) (x : Lx) : Option Nat := if x.chk then none else idx (divr x.org) (s.drop x.pos)
structure SecR (S S' : Sec) : Prop where
  gh : S'.gh = S.gh
  g1 : S'.g1 = S.g1
  g2 : S'.g2 = S.g2
  gk : S'.gk = S.gk
  kc : S'.kc = S.kc
  kl : S'.kcs.length = S.kcs.length
  dv : S'.dv = S.dv
theorem SecR.trans {S S' S'' : Sec} (a : SecR S S') (b : SecR S' S'') : SecR S S'' := ⟨b.gh.trans a.gh, b.g1.trans a.g1, b.g2.trans a.g2, b.gk.trans a.gk, b.kc.trans a.kc, b.kl.trans a.kl, b.dv.trans a.dv⟩
structure SecOk (s : T) (x : Lx) (S : Sec) : Prop where
  al : S.all = true → found s S.dv x = none
  a1 : S.s1 = true → idx lsc (s.drop x.pos) = none
  a2 : S.dv = true → S.s2 = true → idxD s x = none
  kc : S.kc = bif S.dv then 2 else 1
  kl : S.kcs.length = S.kc
section
variable {X : Cx} {P : Program} {f : Fr} {m : Mem} {ty : TypeId} {pos : String} {af : Array Edge} {gd : Option (Nat × Bool)} {d : Option Tmp}
end

theorem SecR.may {X : Cx} {H : Hd} {S S' : Sec} (h : SecR S S') (hm : SecMay X H S) : SecMay X H S' := ⟨hm.s, h.g1 ▸ hm.m1, h.g2 ▸ hm.m2, h.gk ▸ hm.my, by rw [h.kl, h.kc]; exact hm.kl, by rw [h.kc]; exact hm.kx⟩

structure SI (s : T) (st : Lex0.St) (x : Lx) (S : Sec) : Prop where
  ok : SecOk s x S
  no : mainSt st = false → S.all = false ∧ S.s1 = false ∧ S.s2 = false
theorem SecOk.free {s : T} {x y : Lx} {S : Sec} (h : SecOk s x S) (hn : S.all = false ∧ S.s1 = false ∧ S.s2 = false) : SecOk s y S := ⟨(fun a => by rw [hn.1] at a; cases a), (fun a => by rw [hn.2.1] at a; cases a), (fun _ a => by rw [hn.2.2] at a; cases a), h.kc, h.kl⟩
theorem env_al : envT.al (-1) = false := by kernel_rfl
structure RI where
  u : Option Lex0.St
  x : Lx
  q : RS
  W : Nat
  G : Mem
  S : Sec
  gd : Nat
structure RP (X : Cx) (H : Hd) (S0 : Sec) (l : List Itm) (n : Nat) (i : RI) : Prop where
  ok : StOk X H i.x i.q i.G
  w : jo i.u = true → i.W = 1
  r : SecR S0 i.S
  go : ∀ st, i.u = some st → ∃ k, n = k + 1 ∧ Lex0.Good envT H.s st i.x ∧ SI H.s st i.x i.S ∧ RunsN envT H.s S0.dv k st i.x l ∧ i.x.items.length + 6 * n ≤ 999999990000 ∧ i.x.step + n ≤ 4611686018427387904 ∧ i.x.closing + n ≤ 4611686018427387904 ∧ i.x.name.size ≤ 4294967296
  e : i.u = none → i.x.items = l
end Go.Proofs.YtkehggbmpdacpaaGreatDoor.Pg
namespace Go.Rx
open Go.RowKit
section
variable {X : Cx} {P : Program} {f : Fr} {m : Mem} {d : Option Tmp} {ty : TypeId} {pos : String} {af : Array Edge} {gd : Option (Nat × Bool)}
variable {ops : Array Oper} {Q : Exit → Act → World → Prop} {K : Act → World → Prop} {rest : List Oper}
end
section
variable {qt : Bool} {X : Cx} {P : Program} {ops : Array Oper} {Q : Exit → Act → World → Prop} {K : Act → World → Prop} {l rest : List Oper} {f : Fr} {m mS : Mem} {o : Oper}
end
theorem nodup_pick {α : Type} : ∀ (is : List Nat) (l m : List α), l.Nodup → is.Nodup → is.map (l[·]?) = m.map some → m.Nodup
  | [], l, m, _, _, h => by
    cases m with
    | nil => exact List.nodup_nil
    | cons a r => cases h
  | i :: is, l, m, hl, hi, h => by
    cases m with
    | nil => cases h
    | cons a r =>
      rw [List.map_cons, List.map_cons, List.cons.injEq] at h
      obtain ⟨h1, h2⟩ := h
      obtain ⟨hi1, hi2⟩ := List.nodup_cons.1 hi
      refine List.nodup_cons.2 ⟨fun ha => ?_, nodup_pick is l r hl hi2 h2⟩
      obtain ⟨j, hj, hja⟩ : ∃ j ∈ is, l[j]? = some a := by
        have : some a ∈ is.map (l[·]?) := by rw [h2]; exact List.mem_map_of_mem ha
        obtain ⟨j, hj, e⟩ := List.mem_map.1 this
        exact ⟨j, hj, e⟩
      obtain ⟨hlt, _⟩ := List.getElem?_eq_some_iff.1 h1
      have := (List.getElem?_inj hlt hl).1 (h1.trans hja.symm)
      subst this
      exact hi1 hj
theorem Has.pick {m m' : Mem} {w : World} (is : List Nat) (h : Has m w) (hi : is.Nodup) (he : is.map (m[·]?) = m'.map some) : Has m' w := by
  have hm : ∀ x ∈ m', x ∈ m := fun x hx => by
    have : some x ∈ is.map (m[·]?) := by rw [he]; exact List.mem_map_of_mem hx
    obtain ⟨j, _, e⟩ := List.mem_map.1 this
    exact List.mem_of_getElem? e
  refine ⟨?_, fun x hx => h.blk x (hm x hx)⟩
  refine nodup_pick is (m.map (·.1)) _ h.ne hi ?_
  have := congrArg (List.map (Option.map (fun x : Nat × List Value × Bk => x.1))) he
  simpa [Function.comp_def] using this
theorem Cl.pick {X : Cx} {m m' : Mem} {w : World} (is : List Nat) (h : Cl X m w) (hi : is.Nodup) (he : is.map (m[·]?) = m'.map some) : Cl X m' w := ⟨h.1.pick is hi he, h.2⟩
end Go.Rx
namespace Go.Proofs.YtkehggbmpdacpaaGreatDoor.Pg
open Go.Rx hiding bt
open Go.RowKit Go.Proofs.YtkehggbmpdacpaaGreatDoor.Dec0 Go.Proofs.YtkehggbmpdacpaaGreatDoor.Lex0


section
variable {X : Cx} {P : Program} {f : Fr} {m : Mem} {ty : TypeId} {pos : String} {af : Array Edge} {gd : Option (Nat × Bool)} {d : Option Tmp}
end
structure PsdOk (X : Cx) (H0 : Hd) (l : List Itm) (p : Hd × RI) : Prop where
  ib : iB p.1 = iB H0
  hs : p.1.s = H0.s
  it : p.2.x.items = l
  st : StOk X p.1 p.2.x p.2.q p.2.G
end Go.Proofs.YtkehggbmpdacpaaGreatDoor.Pg
