/- The page laws: texts that all of them use, joined (part 2): Lex6, Pg40, Pg41, ShelfBuf, Pg42, Pg43, Pg44, Pg45, Pg46, PgQ, Pg47, Pg48, Pg49, Pg50, Pg51, Pg52, Pg53, Lex8, Pg54, Pg55, Pg56, Pg57, LwHas, LwFits, LwAsc, LwNm, Sp1. -/
import Derived.Shelf.LaysM
import Derived.Shelf.Bytes.Bytes
import Derived.Shelf.Bytes.WriteKept
import Derived.Test.YtkehggbmpdacpaaGreatDoorProg
import Derived.OrdersHeld
import Derived.Deep.Quiet
import Derived.Test.YtkehggbmpdacpaaGreatDoorKp0
import Derived.Test.YtkehggbmpdacpaaGreatDoorKp1
set_option maxRecDepth 100000
set_option linter.unusedVariables false
set_option linter.unusedSimpArgs false
set_option linter.unusedSectionVars false
namespace Go.Proofs.YtkehggbmpdacpaaGreatDoor.Lex0
open Go.Proofs.YtkehggbmpdacpaaGreatDoor.Dec0 Go.Proofs.YtkehggbmpdacpaaGreatDoor.Txt0
def isSpT (t : T) : Bool := t.all fun c => isSp c.toNat
def bitsT (ty : Nat) (nw : Bool) : Nat :=
  (if ty = 18 ∨ ty = 17 then 1 else 0) + (if ty = 17 then 2 else 0) + (if nw then 4 else 0) + (if ty = 13 then 8 else 0) + (if ty = 14 then 16 else 0) + (if ty = 8 ∨ ty = 10 then 32 else 0) + (if ty = 9 ∨ ty = 11 then 64 else 0) + (if ty = 12 then 128 else 0) + (if ty = 15 then 256 else 0) + (if ty = 16 then 512 else 0) + (if ty = 10 ∨ ty = 11 then 1024 else 0) + (if 3 ≤ ty ∧ ty ≤ 6 then 2048 else 0) + (if ty = 0 ∨ ty = 1 then 4096 else 0) + (if ty = 1 then 8192 else 0) + (if ty = 0 then 16384 else 0)
structure Ti where
  ty : Nat
  pos : Nat
  text : T
  failed : Bool
  is : Nat
deriving DecidableEq
def posI (it : Itm) : Nat := match it.segs with
  | [] => it.low
  | p :: _ => p.1
def valI (s : T) (it : Itm) : T := if it.segs = [] then cut s it.low it.high else it.segs.flatMap fun p => cut s p.1 p.2
def toldI (E : Env) (s : T) (it : Itm) : Ti := ⟨it.ty, posI it, valI s it, it.err, bitsT it.ty (!(E.tr (valI s it)).isEmpty)⟩
def tiOf (ty pos : Nat) (t : T) : Ti := ⟨ty, pos, t, false, bitsT ty (!isSpT t)⟩
def asc (t : T) : Prop := ∀ c ∈ t, c.toNat < 128
structure TrA (E : Env) : Prop where
  asc : ∀ t, asc t → (E.tr t).isEmpty = isSpT t
theorem toldI_of {E : Env} (hT : TrA E) {s : T} {it : Itm} {t : T} {p : Nat} (h1 : valI s it = t) (h2 : asc t) (h3 : it.err = false) (h4 : posI it = p) : toldI E s it = tiOf it.ty p t := by
  unfold toldI tiOf
  rw [h1, h3, h4, hT.asc t h2]
theorem told_mk {E : Env} (hT : TrA E) {s : T} {ty a b : Nat} {t : T} (h : cut s a b = t) (ha : asc t) : toldI E s (mk ty a b) = tiOf ty a t := toldI_of hT (h : _ = t) ha rfl rfl
structure Book where
  s : T
  l : List Ti
def Book.as_ (b : Book) (ty : Nat) (text told : T) : Book := ⟨b.s ++ text, b.l ++ [tiOf ty b.s.length told]⟩
def Book.put (b : Book) (ty : Nat) (text : T) : Book := b.as_ ty text text
def Book.pass (b : Book) (text : T) : Book := ⟨b.s ++ text, b.l⟩
structure Ctl where
  md : Bool
  inl : Bool
  name : ByteArray
  closing : Nat
  step : Nat
  par : Nat
  op : List (ByteArray × Bool)
  org : Bool
  chk : Bool
def ctl (x : Lx) : Ctl := ⟨x.md, x.inl, x.name, x.closing, x.step, x.par, x.op, x.org, x.chk⟩
structure Sim (E : Env) (s : T) (b : Book) (r : T) (c : Ctl) (x : Lx) : Prop where
  e : s = b.s ++ r
  p : x.pos = b.s.length
  st : x.start = x.pos
  l : x.items.map (toldI E s) = b.l
  c : ctl x = c
theorem Sim.drop {E : Env} {s : T} {b : Book} {r : T} {c : Ctl} {x : Lx} (h : Sim E s b r c x) : s.drop x.pos = r := by rw [h.e, h.p, List.drop_left]
def Go (E : Env) (s : T) (dv : Bool) (st : St) (b : Book) (r : T) (c : Ctl) (st' : St) (b' : Book) (r' : T) (c' : Ctl) : Prop := ∀ x, Sim E s b r c x → ∃ x', Steps E s dv st x st' x' ∧ Sim E s b' r' c' x'
theorem Go.refl {E : Env} {s : T} {dv : Bool} {st : St} {b : Book} {r : T} {c : Ctl} : Go E s dv st b r c st b r c := fun x h => ⟨x, .refl, h⟩
theorem Go.trans {E : Env} {s : T} {dv : Bool} {st1 st2 st3 : St} {b1 b2 b3 : Book} {r1 r2 r3 : T} {c1 c2 c3 : Ctl} (h : Go E s dv st1 b1 r1 c1 st2 b2 r2 c2) (k : Go E s dv st2 b2 r2 c2 st3 b3 r3 c3) : Go E s dv st1 b1 r1 c1 st3 b3 r3 c3 := fun x hx => by
  obtain ⟨y, h1, h2⟩ := h x hx
  obtain ⟨z, h3, h4⟩ := k y h2
  exact ⟨z, h1.trans h3, h4⟩
def Tells (E : Env) (s : T) (front dv : Bool) (l : List Ti) : Prop := ∃ k, Parses E s front dv k ∧ k.map (toldI E s) = l
section
variable {E : Env} {s : T} {dv : Bool} {b : Book} {c : Ctl}
theorem Sim.put {r' u t : T} {ty : Nat} {c' : Ctl} {x y : Lx} (hx : Sim E s b (u ++ r') c x) (hp : y.pos = x.pos + u.length) (hst : y.start = y.pos) (it : Itm) (hi : y.items = x.items ++ [it]) (ht : toldI E s it = tiOf ty x.pos t) (hc : ctl y = c') : Sim E s (b.as_ ty u t) r' c' y := by
  obtain ⟨h1, h2, h3, h4, h5⟩ := hx
  refine ⟨?_, ?_, hst, ?_, hc⟩
  · show s = (b.s ++ u) ++ r'; rw [h1, List.append_assoc]
  · show _ = (b.s ++ u).length; rw [hp, h2, List.length_append]
  · rw [hi, List.map_append, h4, List.map_cons, List.map_nil, ht, h2]; rfl
theorem Sim.pass {r' u : T} {c' : Ctl} {x y : Lx} (hx : Sim E s b (u ++ r') c x) (hp : y.pos = x.pos + u.length) (hst : y.start = y.pos) (hi : y.items = x.items) (hc : ctl y = c') : Sim E s (b.pass u) r' c' y := by
  obtain ⟨h1, h2, h3, h4, h5⟩ := hx
  refine ⟨?_, ?_, hst, ?_, hc⟩
  · show s = (b.s ++ u) ++ r'; rw [h1, List.append_assoc]
  · show _ = (b.s ++ u).length; rw [hp, h2, List.length_append]
  · rw [hi]; exact h4
theorem g_sp (u : T) {r : T} (hu : ∀ c ∈ u, isSp c.toNat = true) : Go E s dv .inside b (u ++ r) c .inside (b.pass u) r c := fun x hx =>
  ⟨_, in_sp u hx.st hx.drop hu, hx.pass rfl rfl rfl hx.c⟩
theorem asc_rd (md : Bool) : asc (rd md) := by cases md <;> (intro c hc; revert c; decide)
theorem asc_lf (md : Bool) : asc (if md then lmd else lno) := by cases md <;> (intro c hc; revert c; decide)
theorem g_right (hT : TrA E) {r : T} {md : Bool} (hm : c.md = md) : Go E s dv .inside b (rd md ++ r) c .main (b.put (if md then 11 else 9) (rd md)) r { c with closing := 0 } := fun x hx => by
  have hmd : x.md = md := by rw [← hm, ← hx.c]; rfl
  have hd := hx.drop
  rw [← hmd] at hd hx ⊢
  refine ⟨_, .go (in_right hd) (.one right_main), hx.put (by rw [rd3]) rfl _ rfl ?_ (by rw [← hx.c]; rfl)⟩
  rw [← hx.st]
  refine told_mk hT ?_ (asc_rd _)
  rw [hx.st]
  have := cut_at hd
  rw [rd3] at this
  exact this
theorem isN_lt {c : UInt8} (h : isN c = true) : c.toNat < 128 := by
  unfold isN at h
  simp only [Bool.or_eq_true, beq_iff_eq] at h
  rcases h with (h | h) | h
  · exact isW_lt h
  · omega
  · omega
structure NameT (w : T) : Prop where
  ne : w ≠ []
  h0 : ∀ c, w.head? = some c → isW c = true
  all : ∀ c ∈ w, isN c = true
theorem NameT.asc {w : T} (h : NameT w) : asc w := fun c hc => isN_lt (h.all c hc)
def ctlN (c : Ctl) (inl : Bool) (w : T) : Ctl := { c with inl := inl, closing := 0, name := ba w, step := c.step + 1, op := oset (ba w) true (if 0 < c.closing then oset (ba w) false c.op else c.op) }
theorem g_name (hE : EA E) (hT : TrA E) {w r : T} (hw : NameT w) (hi : c.inl = false) (hst : c.step = 0) (ho : c.closing = 0 ∨ oget (ba w) c.op = true) :
    Go E s dv .inside b (w ++ 32 :: r) c (if 0 < c.closing then .endsc else .inside) (b.put 13 w) (32 :: r) (ctlN c false w) := fun x hx => by
  have hc := hx.c
  subst hc
  refine ⟨_, in_name hE hx.st hi hst hx.drop hw.ne hw.h0 hw.all ho, hx.put rfl rfl _ rfl ?_ rfl⟩
  rw [← hx.st]
  exact told_mk hT (by rw [hx.st]; exact cut_at hx.drop) hw.asc
structure ValT (v : T) : Prop where
  asc : asc v
  q : ∀ c ∈ v, c ≠ 92 ∧ c ≠ 10
  h0 : v.head? ≠ some 34
theorem isP_lt {c : UInt8} (h : isP c = true) : c.toNat < 128 := by
  unfold isP at h
  simp only [Bool.or_eq_true, beq_iff_eq] at h
  rcases h with (h | h) | h
  · exact isW_lt h
  · omega
  · omega
structure BareT (w : T) : Prop where
  ne : w ≠ []
  h0 : ∀ c, w.head? = some c → isW c = true
  all : ∀ c ∈ w, isP c = true
theorem BareT.asc {w : T} (h : BareT w) : asc w := fun c hc => isP_lt (h.all c hc)
theorem g_bare (hE : EA E) (hT : TrA E) {w r : T} {d : UInt8} (hw : BareT w) (hst : 0 < c.step) (hl : d.toNat < 128) (hd : isP d = false) (hpar : if d = 61 then c.par ≠ 1 else c.par ≠ 2) :
    Go E s dv .inside b (w ++ d :: r) c .inside (b.put 15 w) (d :: r) { c with par := if c.par = 0 then (if d = 61 then 2 else 1) else c.par } := fun x hx => by
  have hc := hx.c
  subst hc
  obtain ⟨a, w', rfl⟩ : ∃ a w', w = a :: w' := by
    cases w with
    | nil => exact absurd rfl hw.ne
    | cons a w' => exact ⟨a, w', rfl⟩
  refine ⟨_, .one (in_bare hE hx.st hst hx.drop (hw.h0 a rfl) (fun c hc => hw.all c (List.mem_cons_of_mem _ hc)) hl hd hpar), Sim.put hx rfl rfl _ rfl ?_ rfl⟩
  exact told_mk hT (cut_at hx.drop) hw.asc
def texts (b : Book) (u : T) : Book := ⟨b.s ++ u, b.l ++ (let t := u.reverse; let k := (t.takeWhile isBl).length; if u = [] then [] else if t ≠ [] ∧ k = t.length then [tiOf 17 b.s.length u] else if 0 < k ∧ (t.drop k).head? = some 10 then [tiOf 18 b.s.length (u.take (u.length - k)), tiOf 17 (b.s.length + (u.length - k)) (u.drop (u.length - k))] else [tiOf 18 b.s.length u])⟩
theorem tw_len_le (u : T) : ((u.reverse).takeWhile isBl).length ≤ u.length := by
  have := (List.takeWhile_sublist (l := u.reverse) isBl).length_le
  rwa [List.length_reverse] at this
theorem told_txts (hT : TrA E) {p : Nat} {u r : T} (hd : s.drop p = u ++ r) (ha : asc u) (hu : u ≠ []) : (txts s p (p + u.length)).map (toldI E s) = (let t := u.reverse; let k := (t.takeWhile isBl).length; if t ≠ [] ∧ k = t.length then [tiOf 17 p u] else if 0 < k ∧ (t.drop k).head? = some 10 then [tiOf 18 p (u.take (u.length - k)), tiOf 17 (p + (u.length - k)) (u.drop (u.length - k))] else [tiOf 18 p u]) := by
  have hc := cut_at hd
  have hk := tw_len_le u
  rw [txts_cut hc]
  dsimp only
  generalize ((u.reverse).takeWhile isBl).length = k at hk ⊢
  have h1 : cut s p (p + (u.length - k)) = u.take (u.length - k) := by
    unfold cut
    rw [hd, show p + (u.length - k) - p = u.length - k by omega, List.take_append_of_le_length (by omega)]
  have h2 : cut s (p + (u.length - k)) (p + u.length) = u.drop (u.length - k) := by
    unfold cut
    rw [← List.drop_drop, hd, List.drop_append_of_le_length (by omega), show p + u.length - (p + (u.length - k)) = (u.drop (u.length - k)).length by rw [List.length_drop]; omega, List.take_left]
  have a1 : asc (u.take (u.length - k)) := fun c hc => ha c (List.mem_of_mem_take hc)
  have a2 : asc (u.drop (u.length - k)) := fun c hc => ha c (List.mem_of_mem_drop hc)
  split
  · simp only [List.map_cons, List.map_nil, told_mk hT hc ha]
  · split
    · rw [show p + u.length - k = p + (u.length - k) by omega]
      simp only [List.map_cons, List.map_nil, told_mk hT h1 a1, told_mk hT h2 a2]
    · simp only [List.map_cons, List.map_nil, told_mk hT hc ha]
theorem told_opn (hT : TrA E) {u r : T} {x : Lx} (hx : Sim E s b (u ++ r) c x) (ha : asc u) : (x.items ++ opn s x.start (x.pos + u.length)).map (toldI E s) = (texts b u).l := by
  rw [List.map_append, hx.l, hx.st]
  unfold texts opn
  dsimp only
  by_cases hu : u = []
  · subst hu
    rw [if_neg (by simp), if_pos rfl]; rfl
  · have := List.length_pos_iff.2 hu
    rw [if_pos (by omega), if_neg hu, told_txts hT hx.drop ha hu, hx.p]
theorem g_left (hT : TrA E) (u : T) {r : T} (md : Bool) (ha : asc u) (hf : ∀ x, Sim E s b (u ++ ((if md then lmd else lno) ++ r)) c x → found s dv x = some u.length) (hi : c.inl = true → inlOk E r c.name = true) (hc : [47, 42].isPrefixOf r = false) :
    Go E s dv .main b (u ++ ((if md then lmd else lno) ++ r)) c .inside ((texts b u).put (if md then 10 else 8) (if md then lmd else lno)) r { c with md := md, step := 0, par := 0 } := fun x hx => by
  have hcx := hx.c
  subst hcx
  have hd2 : s.drop (x.pos + u.length) = (if md then lmd else lno) ++ r := drop_more hx.drop
  have hm : Sim E s (texts b u) ((if md then lmd else lno) ++ r) (ctl x) { x with pos := x.pos + u.length, start := x.pos + u.length, items := x.items ++ opn s x.start (x.pos + u.length) } :=
    ⟨by show s = (b.s ++ u) ++ _; rw [List.append_assoc]; exact hx.e, by show _ = (b.s ++ u).length; rw [List.length_append, ← hx.p], rfl, told_opn hT hx ha, rfl⟩
  refine ⟨_, go_in (hf x hx) (Nat.le_of_eq hx.st) hd2 hi hc, Sim.put hm (by rw [lf3]) rfl _ rfl ?_ rfl⟩
  refine told_mk hT ?_ (asc_lf md)
  have := cut_at hd2
  rw [lf3] at this
  exact this
theorem found_of_sim {u r : T} {x : Lx} (hx : Sim E s b (u ++ 123 :: 123 :: r) c x) (h1 : ∀ c ∈ u, c ≠ 123) (h2 : dv = true → c.chk = false → ∀ d ∈ u, d ≠ if c.org then 35 else 60) : found s dv x = some u.length := by
  have hc := hx.c
  subst hc
  refine found_left hx.drop h1 (fun ho => ?_)
  unfold dvOn at ho
  simp only [Bool.and_eq_true, Bool.not_eq_true'] at ho
  exact h2 ho.1 ho.2
theorem g_stop (hT : TrA E) (u : T) {x : Lx} (hx : Sim E s b u c x) (ha : asc u) (hf : u = [] ∨ found s dv x = none) : ∃ k, Runs E s dv .main x k ∧ k.map (toldI E s) = ((texts b u).put 1 []).l := by
  have hs : s.length = x.pos + u.length := by rw [hx.e, List.length_append, hx.p]
  refine ⟨_, go_end (Nat.le_of_eq hx.st) (by omega) ?_, ?_⟩
  · rcases hf with h | h
    · subst h; left; rw [hs]; simp
    · exact .inr h
  · have h1 := told_opn hT (u := u) (r := []) (x := x) (by rw [List.append_nil]; exact hx) ha
    rw [List.map_append, hs, h1]
    show _ = (texts b u).l ++ [tiOf 1 (b.s ++ u).length []]
    congr 1
    rw [List.map_cons, List.map_nil, told_mk hT (t := []) (by unfold cut; simp) (by intro c hc; cases hc), List.length_append, hx.p]
theorem texts_nil (b : Book) : texts b [] = b := by
  unfold texts
  dsimp only
  rw [if_pos rfl, List.append_nil, List.append_nil]
end
def c0 : Ctl := ⟨false, false, ⟨#[]⟩, 0, 0, 0, [], false, false⟩
theorem sim0 (E : Env) (s : T) : Sim E s ⟨[], []⟩ s c0 lx0 := ⟨rfl, rfl, rfl, rfl, rfl⟩
theorem tells_of {E : Env} {s : T} {dv : Bool} (hT : TrA E) {b : Book} {c : Ctl} (h : Go E s dv .main ⟨[], []⟩ s c0 .main b [] c) : Tells E s false dv (b.put 1 []).l := by
  obtain ⟨x, h1, h2⟩ := h lx0 (sim0 E s)
  obtain ⟨k, h3, h4⟩ := g_stop (dv := dv) hT [] h2 (by intro c hc; cases hc) (.inl rfl)
  rw [texts_nil] at h4
  exact ⟨k, h1.runs h3, h4⟩
end Go.Proofs.YtkehggbmpdacpaaGreatDoor.Lex0
namespace Go.Proofs.YtkehggbmpdacpaaGreatDoor.Pg
open Go.Rx hiding bt
open Go.RowKit Go.Proofs.YtkehggbmpdacpaaGreatDoor.Dec0 Go.Proofs.YtkehggbmpdacpaaGreatDoor.Lex0

def SegW (w : World) (sg : Value) (segs : List (Nat × Nat)) : Prop := (segs = [] ∧ sg = .slice none 0 0) ∨ ∃ A cap, segs ≠ [] ∧ sg = .slice (some A) segs.length cap ∧ ∀ (j : Nat) u, (segC segs)[j]? = some u → w.cell? (A.add j) = some u
end Go.Proofs.YtkehggbmpdacpaaGreatDoor.Pg
namespace Go.Proofs
open Go.Shelf

end Go.Proofs
namespace Go.Proofs.YtkehggbmpdacpaaGreatDoor.Pg
open Go.Rx hiding bt
open Go.RowKit Go.Proofs.YtkehggbmpdacpaaGreatDoor.Dec0 Go.Proofs.YtkehggbmpdacpaaGreatDoor.Lex0

def SegCh (n : Nat) : Nat → List (Nat × Nat) → Prop
  | a, [] => a ≤ n
  | a, p :: r => a ≤ p.1 ∧ p.1 ≤ p.2 ∧ SegCh n p.2 r
theorem SegCh.le {n : Nat} : ∀ {segs : List (Nat × Nat)} {a : Nat}, SegCh n a segs → a ≤ n
  | [], a, h => h
  | p :: r, a, h => by have := SegCh.le h.2.2; have := h.1; have := h.2.1; omega
theorem SegCh.mem {n : Nat} : ∀ {segs : List (Nat × Nat)} {a : Nat}, SegCh n a segs → ∀ p ∈ segs, p.1 ≤ p.2 ∧ p.2 ≤ n
  | [], a, h, p, hp => by cases hp
  | q :: r, a, h, p, hp => by
    rcases List.mem_cons.1 hp with rfl | hp
    · exact ⟨h.2.1, SegCh.le h.2.2⟩
    · exact SegCh.mem h.2.2 p hp

def ItW (w : World) (s : T) (it : Itm) (cs : List Value) : Prop := ∃ er sg, cs = itC it.ty er it.low it.high sg (fbN s (ipos it)) it.str ∧ ((it.err = false ∧ er = .nilIface) ∨ (it.err = true ∧ ∃ v, er = .iface 171 v)) ∧ SegW w sg it.segs
structure InI (s : T) (it : Itm) : Prop where
  lo : it.segs = [] → it.low ≤ it.high ∧ it.high ≤ s.length
  ch : SegCh s.length 0 it.segs
  n : it.segs.length ≤ s.length
theorem SegW.below {w w' : World} {sg : Value} {segs : List (Nat × Nat)} (h : SegW w sg segs) (hb : Below w.heap.size w w') : SegW w' sg segs := by
  rcases h with h | ⟨A, cap, h1, h2, h3⟩
  · exact .inl h
  · exact .inr ⟨A, cap, h1, h2, fun j u hj => Go.Rx.cell_evo (S := fun _ => False) (Evo.of_below hb) (fun h => h) (h3 j u hj)⟩
theorem ItW.below {w w' : World} {s : T} {it : Itm} {cs : List Value} (h : ItW w s it cs) (hb : Below w.heap.size w w') : ItW w' s it cs := by
  obtain ⟨er, sg, h1, h2, h3⟩ := h
  exact ⟨er, sg, h1, h2, h3.below hb⟩
theorem SegW.one {w : World} {sg : Value} {segs : List (Nat × Nat)} (h : SegW w sg segs) : sg.oneCell' = true := by
  rcases h with ⟨_, rfl⟩ | ⟨A, cap, _, rfl, _⟩ <;> rfl
theorem SlB.slice {w : World} {v : Value} {l : T} (h : SlB w v l) : ∃ A c, v = .slice A l.length c := by
  rcases h with ⟨b, o, c, rfl, _⟩ | ⟨rfl, rfl⟩
  · exact ⟨_, _, rfl⟩
  · exact ⟨_, _, rfl⟩
end Go.Proofs.YtkehggbmpdacpaaGreatDoor.Pg
namespace Go.Rx
open Go.RowKit
section
variable {P : Program} {ops : Array Oper} {Q : Exit → Act → World → Prop} {md : Region.Mode} {X : Cx} {mS : Mem}
def YldC (P : Program) (ops : Array Oper) (X : Cx) (mS : Mem) (o : Oper) (v : Value) (a : Act) : Prop :=
  (Region.wanted o (yielded ops a.tmps) = true ∧ ∀ E w, Cl X (mS ++ E) w → o.quietAt P a (Cl X (mS ++ E)) w v) ∨ (Region.wanted o (yielded ops a.tmps) = false ∧ v = undef)
theorem YldC.wpOp {i : Nat} {o : Oper} {v : Value} {a : Act} (hi : ops[i]? = some o) (hy : YldC P ops X mS o v a) {K : Act → World → Prop} {E : Mem} {w : World} (hC : Cl X (mS ++ E) w) (h : ∀ w', Cl X (mS ++ E) w' → K (a.put o.dst v) w') : wpOp P ops Q i K a w := by
  unfold Go.wpOp
  simp only [hi]
  rcases hy with ⟨hw, hv⟩ | ⟨hw, rfl⟩
  · simp only [hw, if_true]
    refine .inl ?_
    have h3 := hv E w hC
    unfold Oper.quietAt at h3
    unfold Oper.wp
    generalize (execOp a.eval o).run P w = r at *
    cases r with
    | ok n w' =>
      cases n <;> simp only [Oper.quietUpon] at h3 <;> simp only [Oper.upon]
      case value u =>
        obtain ⟨e1, e2⟩ := h3
        rw [e1, e2]
        exact h _ hC
      case skip =>
        obtain ⟨e1, e2⟩ := h3
        rw [e1, ← e2]
        exact h _ hC
      case enter f args =>
        obtain ⟨e1, hc⟩ := h3
        rw [e1]
        exact hc.mono fun e w'' ⟨he, hw''⟩ => by subst he; exact h _ hw''
    | halt x w' => simp only [Oper.quietUpon] at h3
  · simp only [hw, Bool.false_eq_true, if_false]
    exact h _ hC
def anyM (P : Program) (md : Region.Mode) (ops : Array Oper) (Q : Exit → Act → World → Prop) (X : Cx) (mS : Mem) : Nat → Array Bool → Act → Mem → Prop
  | 0, listed, a, E => Region.ready md ops listed = [] ∧ ∀ w, Cl X (mS ++ E) w → Q .normal a w
  | fuel + 1, listed, a, E => (Region.ready md ops listed = [] → ∀ w, Cl X (mS ++ E) w → Q .normal a w) ∧
    ∀ i ∈ Region.ready md ops listed, ∀ w, Cl X (mS ++ E) w → wpOp P ops Q i (fun a' w' => ∃ E', Cl X (mS ++ E') w' ∧ anyM P md ops Q X mS fuel (listed.setIfInBounds i true) a' E') a w
end
section
variable {qt : Bool} {X : Cx} {P : Program} {Q : Exit → Act → World → Prop} {l rest : List Oper} {ops : Array Oper} {f : Fr} {mS E : Mem} {o : Oper}
structure PM (P : Program) (l : List Oper) (Q : Exit → Act → World → Prop) (X : Cx) (mS : Mem) (g : Nat) (D : List Nat) (f : Fr) (E : Mem) : Prop where
  of :: out : ∀ a, Agr X.n X.D f a → anyM P .any l.toArray Q X mS g (lst l.length D) a E
structure MK (P : Program) (l : List Oper) (Q : Exit → Act → World → Prop) (X : Cx) (mS : Mem) (g : Nat) (D : List Nat) (a : Act) (w : World) : Prop where
  of :: out : ∃ E', Cl X (mS ++ E') w ∧ anyM P .any l.toArray Q X mS g (lst l.length D) a E'
def stq (P : Program) (ops : Array Oper) (X : Cx) (mS : Mem) (K : Act → Prop) : List Oper → Act → Prop
  | [], a => K a
  | o :: r, a => ∃ v, YldC P ops X mS o v a ∧ stq P ops X mS K r (a.put o.dst v)
structure JC (X : Cx) (P : Program) (ops : Array Oper) (mS : Mem) (K : Fr → Prop) (l : List Oper) (f : Fr) : Prop where
  of :: out : ∃ f', K f' ∧ ∀ a, Agr X.n X.D f a → stq P ops X mS (fun a' => Agr X.n X.D f' a') l a
end
end Go.Rx
namespace Go.Proofs.YtkehggbmpdacpaaGreatDoor.Pg
open Go.Rx hiding bt
open Go.RowKit Go.Proofs.YtkehggbmpdacpaaGreatDoor.Dec0 Go.Proofs.YtkehggbmpdacpaaGreatDoor.Lex0
theorem ze42 : (Tryz.prog.info? 42).bind (·.zero) = some (.agg #[.int .i64 0, .int .i64 0, .string ⟨#[]⟩, .bool false, .int .u16 0]) := by kernel_rfl
theorem ag42 : aggB Tryz.prog 42 5 = true := by kernel_rfl
theorem si42 : (Tryz.prog.info? 42).map (·.size) = some 5 := by kernel_rfl
theorem fb42_4 : fieldB Tryz.prog 42 4 = some 4 := by kernel_rfl
theorem si40 : (Tryz.prog.info? 40).map (·.size) = some 1 := by kernel_rfl
theorem wrap16 (n : Int) : IntKind.u16.wrap n = n % 65536 := by simp [IntKind.wrap, IntKind.bits, IntKind.signed]
theorem or_pow {a j : Nat} (ha : a < 2 ^ j) (hj : j < 15) : bits .or .u16 (a : Nat) ((2 ^ j : Nat) : Int) = ((a + 2 ^ j : Nat) : Int) := by
  have h1 : 2 ^ j < 2 ^ 15 := Nat.pow_lt_pow_right (by omega) hj
  have h2 : a ||| 2 ^ j = a + 2 ^ j := by
    have := Nat.two_pow_add_eq_or_of_lt ha 1
    rw [Nat.mul_one] at this
    rw [Nat.or_comm, ← this, Nat.add_comm]
  have h3 : a + 2 ^ j < 2 ^ 16 := by omega
  have e1 : (BitVec.ofInt 16 (a : Nat) ||| BitVec.ofInt 16 ((2 ^ j : Nat) : Int)).toNat = a + 2 ^ j := by
    rw [BitVec.toNat_or, BitVec.ofInt_natCast, BitVec.ofInt_natCast, BitVec.toNat_ofNat, BitVec.toNat_ofNat, Nat.mod_eq_of_lt (by omega), Nat.mod_eq_of_lt (by omega), h2]
  unfold bits
  simp only
  show IntKind.u16.wrap (((BitVec.ofInt 16 (a : Nat) ||| BitVec.ofInt 16 ((2 ^ j : Nat) : Int)).toNat : Nat) : Int) = _
  rw [e1]
  rw [wrap16]
  omega
def bsum : List Bool → Nat → Nat
  | [], _ => 0
  | b :: r, k => (if b then 2 ^ k else 0) + bsum r (k + 1)
def answers (ty : Nat) (nw : Bool) : List Bool := [decide (ty = 18 ∨ ty = 17), decide (ty = 17), nw, decide (ty = 13), decide (ty = 14), decide (ty = 10 ∨ ty = 8), decide (ty = 11 ∨ ty = 9), decide (ty = 12), decide (ty = 15), decide (ty = 16), decide (ty = 10 ∨ ty = 11), decide (3 ≤ ty ∧ ty ≤ 6), decide (ty = 0 ∨ ty = 1), decide (ty = 1), decide (ty = 0)]
theorem bsum_bits (ty : Nat) (nw : Bool) : bsum (answers ty nw) 0 = bitsT ty nw := by
  have e1 : decide (ty = 10 ∨ ty = 8) = decide (ty = 8 ∨ ty = 10) := decide_eq_decide.2 Or.comm
  have e2 : decide (ty = 11 ∨ ty = 9) = decide (ty = 9 ∨ ty = 11) := decide_eq_decide.2 Or.comm
  unfold answers
  rw [e1, e2]
  unfold bsum bsum bsum bsum bsum bsum bsum bsum bsum bsum bsum bsum bsum bsum bsum bsum bitsT
  simp only [decide_eq_true_eq]
  simp only [Nat.add_assoc, Nat.add_zero]

def tiC (t : Ti) : List Value := [.int .i64 t.ty, .int .i64 t.pos, .string (ba t.text), .bool t.failed, .int .u16 t.is]

theorem gr24 : growB Tryz.prog 24 42 5 40 = true := by kernel_rfl

theorem al_ascii : ∀ k : Fin 128, alU (k.val : Int) = isW (UInt8.ofNat k.val) := by decide +kernel
theorem ea_env : EA envT := ⟨fun c hc => by
  have := al_ascii ⟨c.toNat, hc⟩
  rw [show UInt8.ofNat (⟨c.toNat, hc⟩ : Fin 128).val = c from UInt8.ofNat_toNat] at this
  exact this, env_al⟩
theorem trS_sp {c : UInt8} {r : T} (h1 : c.toNat < 128) (h2 : isSp c.toNat = true) : trS (c :: r) = trS r := by
  show (if 128 ≤ c.toNat then trimU (c :: r) else if isSp c.toNat then trS r else trE (c :: r)) = _
  rw [if_neg (by omega), if_pos h2]
theorem trS_no {c : UInt8} {r : T} (h1 : c.toNat < 128) (h2 : isSp c.toNat = false) : trS (c :: r) = trE (c :: r) := by
  show (if 128 ≤ c.toNat then trimU (c :: r) else if isSp c.toNat then trS r else trE (c :: r)) = _
  rw [if_neg (by omega), if_neg (by rw [h2]; exact Bool.noConfusion)]
theorem dw_nil {p : UInt8 → Bool} : ∀ {l : T}, l.dropWhile p = [] → ∀ c ∈ l, p c = true
  | [], _, c, hc => by cases hc
  | a :: l, h, c, hc => by
    rw [List.dropWhile_cons] at h
    split at h
    · rename_i ha
      rcases List.mem_cons.1 hc with rfl | hc
      · exact ha
      · exact dw_nil h c hc
    · cases h
theorem trE_ne {s : T} (ha : asc s) {c : UInt8} (hc : c ∈ s) (hs : isSp c.toNat = false) : trE s ≠ [] := by
  unfold trE
  cases h : s.reverse.dropWhile (fun c => isSp c.toNat) with
  | nil =>
    have := dw_nil h c (List.mem_reverse.2 hc)
    rw [hs] at this
    cases this
  | cons d t =>
    have hd : d ∈ s := List.mem_reverse.1 (List.dropWhile_sublist _ |>.subset (by rw [h]; exact List.mem_cons_self ..))
    dsimp only
    rw [if_neg (by have := ha d hd; omega)]
    simp
theorem tra_env : TrA envT := ⟨fun t => by
  show asc t → (trS t).isEmpty = isSpT t
  induction t with
  | nil => intro _; rfl
  | cons c r ih =>
    intro h
    have hc := h c (List.mem_cons_self ..)
    have e : isSpT (c :: r) = (isSp c.toNat && isSpT r) := rfl
    rw [e]
    cases hs : isSp c.toNat
    · rw [trS_no hc hs]
      have := trE_ne h (List.mem_cons_self ..) hs
      cases ht : trE (c :: r) with
      | nil => exact absurd ht this
      | cons a b => rfl
    · rw [trS_sp hc hs, ih (fun c hc => h c (List.mem_cons_of_mem _ hc))]
      rfl⟩
end Go.Proofs.YtkehggbmpdacpaaGreatDoor.Pg
namespace Go.Proofs.YtkehggbmpdacpaaGreatDoor.Pg
open Go.Proofs.YtkehggbmpdacpaaGreatDoor.Dec0 Go.Proofs.YtkehggbmpdacpaaGreatDoor.Lex0
def AllIn (s : T) (x : Lx) : Prop := ∀ it ∈ x.items, InI s it
theorem in_mk {s : T} {it : Itm} (hs : it.segs = []) (h1 : it.low ≤ it.high) (h2 : it.high ≤ s.length) : InI s it := ⟨fun _ => ⟨h1, h2⟩, by rw [hs]; exact Nat.zero_le _, by rw [hs]; exact Nat.zero_le _⟩
theorem in_app {s : T} {x y : Lx} {k : List Itm} (h : AllIn s x) (hy : y.items = x.items ++ k) (hk : ∀ it ∈ k, InI s it) : AllIn s y := fun it hi => by
  rw [hy] at hi
  rcases List.mem_append.1 hi with h' | h'
  · exact h it h'
  · exact hk it h'
theorem in_same {s : T} {x y : Lx} (h : AllIn s x) (hy : y.items = x.items) : AllIn s y := fun it hi => h it (by rw [← hy]; exact hi)
theorem in_emit {s : T} {x : Lx} {t : Nat} (h : AllIn s x) (h1 : x.start ≤ x.pos) (h2 : x.pos ≤ s.length) : AllIn s (emit t x) := in_app h rfl fun it hi => by
  rw [List.mem_singleton.1 hi]
  exact in_mk rfl h1 h2
section
variable {E : Env} {s : T} {dv : Bool} {x : Lx} (hp : x.pos ≤ s.length) (hs : x.start ≤ x.pos) (hA : AllIn s x)
include hp hs hA
theorem left_in (hh : Here E s .left x) : AllIn s (left s x).1 := by
  have h3 := Lex0.pre_len (show (if x.md then lmd else lno : T).isPrefixOf (s.drop x.pos) = true from hh)
  rw [lf3, List.length_drop] at h3
  unfold left
  split
  · exact in_same hA rfl
  · exact in_same (in_emit (x := mv 3 x) (t := if x.md then 10 else 8) (in_same hA rfl) (Nat.le_trans hs (Nat.le_add_right _ _)) (by dsimp only [mv]; omega)) rfl
end
end Go.Proofs.YtkehggbmpdacpaaGreatDoor.Pg
namespace Go.Proofs.YtkehggbmpdacpaaGreatDoor.Pg
open Go.Rx hiding bt
open Go.RowKit Go.Proofs.YtkehggbmpdacpaaGreatDoor.Dec0 Go.Proofs.YtkehggbmpdacpaaGreatDoor.Lex0
noncomputable def told (s : T) (front dv : Bool) : List Ti := (parse envT s front dv).map (toldI envT s)
theorem fb29_0 : fieldB Tryz.prog 29 0 = some 0 := by kernel_rfl
theorem fb29_1 : fieldB Tryz.prog 29 1 = some 1 := by kernel_rfl
theorem one9' : oneB Tryz.prog 9 = true := by kernel_rfl
theorem si9' : (Tryz.prog.info? 9).map (·.size) = some 1 := by kernel_rfl
def bkB (g : Nat) (txt : ByteArray) (v : Value) : Nat × List Value × Bk := (g, [.string txt, v], .c 29)
theorem fb42_0 : fieldB Tryz.prog 42 0 = some 0 := by kernel_rfl
theorem und24 : Tryz.prog.underlying 24 = some (.slice 42) := by kernel_rfl
end Go.Proofs.YtkehggbmpdacpaaGreatDoor.Pg
namespace Go.Proofs.YtkehggbmpdacpaaGreatDoor.Lw
open Go.Rx
open Go.RowKit Go.Proofs.YtkehggbmpdacpaaGreatDoor.Dec0 Go.Proofs.YtkehggbmpdacpaaGreatDoor.Txt0
theorem und9 : Tryz.prog.underlying 9 = some .string := by kernel_rfl
theorem boHas : bodyB Tryz.prog 14 = true := by kernel_rfl
set_option maxHeartbeats 1000000 in
theorem has_calls (s x : ByteArray) (w : World) (hs : s.size ≤ 4611686018427387904) (hx : x.size ≤ 4294967296) : Calls Tryz.prog 14 #[.string s, .string x] w fun e w' => e = .returned (.bool (hasT x.data.toList s.data.toList)) ∧ Below w.heap.size w w' := by
  refine enter (fun _ => False) 24 [] Tryz.func14 rfl rfl rfl (vs := [.string s, .string x]) (Has.nil _) ?_
  conv => arg 2; arg 2; whnf
  have post : ∀ (f : Fr) (m : Mem) (b : Bool), hasT x.data.toList s.data.toList = b → Rx.look f 4 = some (.bool b) → PJ ⟨24, [], fun _ => False, w⟩ (bodyPost Tryz.prog Tryz.f14 (fun e w' => e = .returned (.bool (hasT x.data.toList s.data.toList)) ∧ Below w.heap.size w w') .ret) f m := fun f m b hb hf => by
    subst hb
    exact ret1 rfl rfl hf (fun w' hw' => ⟨rfl, hw'.2.below (fun k _ h => h) (Nat.le_refl _)⟩)
  repeat' (first | refine cseq ?_ | refine rtext ?_ | refine cblk ?_ | refine jnil ?_ | ((refine jas_ rfl rfl rfl ?_)))
  refine fin (f' := [(0, .string s), (1, .string x), (5, .int .i64 (0 : Nat))]) (m' := [])
    (cloop (ι := Nat) (fun j => [(0, .string s), (1, .string x), (5, .int .i64 (j : Nat))]) (fun _ => []) (fun k j => k = s.size + 1 - j ∧ j ≤ s.size + 1 ∧ hasT x.data.toList s.data.toList = hasT x.data.toList (s.data.toList.drop j) ∧ (x.size = 0 → j = 0)) (s.size + 1) 0 ⟨rfl, by omega, rfl, fun _ => rfl⟩ ?_) ⟨rfl, rfl, rfl, trivial⟩ rfl
  rintro k j ⟨rfl, hj, heq, h0⟩ K hK
  by_cases hlt : j + x.size ≤ s.size
  case neg =>
    repeat' (first | refine cseq ?_ | refine rtext ?_ | refine cfalse rfl ?_ | refine cret ?_ | refine cexit ?_ | refine jnil ?_ | (first | refine jmv rfl rfl rfl ?_ | refine jas_ rfl rfl rfl ?_ | (show Jo _ (.binOp _ _ _ _ _); first | (show Jo _ (.binOp .add _ _ _ _); refine jy (yadd (c := ((j + x.size : Nat) : Int)) rfl rfl (by rw [i64_in (by omega) (by omega)]; omega)) rfl rfl ?_) | refine jy (yleq rfl rfl (by (exact decide_eq_false (by omega)))) rfl rfl ?_) | (show Jo _ (.call _); ((show Jo _ (.call ⟨.builtin .len, _, _⟩); refine jy (ylens rfl und9) rfl rfl ?_)))))
    refine post _ _ false ?_ rfl
    rw [heq, hasT_short _ _ (by rw [List.length_drop, size_list, size_list]; omega)]
  cases hpe : x.data.toList.isPrefixOf (s.data.toList.drop j)
  all_goals
    replace hpe := (piece_eq s x ((j : Nat) : Int).toNat ((j + x.size : Nat) : Int).toNat (by omega)).trans hpe
    repeat' (first | refine cseq ?_ | refine rtext ?_ | refine ctrue rfl ?_ | refine cfalse rfl ?_ | refine cskip ?_ | refine cblk ?_ | refine cret ?_ | refine tnorm ?_ | refine tret ?_ | refine bret ?_ | refine jnil ?_ | (first | refine jmv rfl rfl rfl ?_ | refine jas_ rfl rfl rfl ?_ | (show Jo _ (.binOp _ _ _ _ _); first | (show Jo (some 14) (.binOp .add _ _ _ _); refine jy (yadd (c := ((j + 1 : Nat) : Int)) rfl rfl (by rw [i64_in (by omega) (by omega)]; omega)) rfl rfl ?_) | (show Jo _ (.binOp .add _ _ _ _); refine jy (yadd (c := ((j + x.size : Nat) : Int)) rfl rfl (by rw [i64_in (by omega) (by omega)]; omega)) rfl rfl ?_) | refine jy (yleq rfl rfl (by (exact decide_eq_true (by omega)))) rfl rfl ?_ | (show Jo _ (.binOp .eql 9 _ _ _); refine jy (yseql rfl rfl hpe) rfl rfl ?_)) | (show Jo _ (.slice _ _ _ _ _); refine jy (yslice rfl rfl rfl und9 (by omega) (by omega) (by omega) rfl) rfl rfl ?_) | (show Jo _ (.call _); ((show Jo _ (.call ⟨.builtin .len, _, _⟩); refine jy (ylens rfl und9) rfl rfl ?_)))))
  · have hp := (piece_eq s x ((j : Nat) : Int).toNat ((j + x.size : Nat) : Int).toNat (by omega)).symm.trans hpe
    rw [Int.toNat_natCast] at hp
    have hx0 : x.data.toList ≠ [] := by
      intro e
      rw [e] at hp
      simp at hp
    have hxs : x.size ≠ 0 := by
      intro e
      apply hx0
      rw [← List.length_eq_zero_iff, size_list]
      exact e
    refine fin (hK (s.size + 1 - (j + 1)) (j + 1) (by omega) ⟨rfl, by omega, ?_, fun e => absurd e hxs⟩) ⟨rfl, rfl, rfl, trivial⟩ rfl
    rw [heq, hasT_drop _ _ hx0, hp, Bool.false_or, List.drop_drop]
  · have hp := (piece_eq s x ((j : Nat) : Int).toNat ((j + x.size : Nat) : Int).toNat (by omega)).symm.trans hpe
    rw [Int.toNat_natCast] at hp
    refine post _ _ true ?_ rfl
    rw [heq]
    cases hd : s.data.toList.drop j with
    | nil =>
      rw [hd] at hp
      cases hx : x.data.toList with
      | nil => rfl
      | cons a b => rw [hx] at hp; simp at hp
    | cons c r => rw [hd] at hp; rw [hasT, hp]; rfl
theorem has_in {X : Cx} {m : Mem} {s x : ByteArray} (hs : s.size ≤ 4611686018427387904) (hx : x.size ≤ 4294967296) : ∀ w, Cl X m w → Calls Tryz.prog 14 #[.string s, .string x] w fun e w' => e = .returned (.bool (hasT x.data.toList s.data.toList)) ∧ Cl X m w' :=
  quietC fun w _ => has_calls s x w hs hx
def strs (l : List ByteArray) : List Value := l.map .string
def fits3 (l : List ByteArray) : Bool := decide (l.length ≤ 2147483647) && l.all fun x => decide (x.size ≤ 2147483647)
theorem fits3_len {l : List ByteArray} (h : fits3 l = true) : l.length ≤ 2147483647 := by
  unfold fits3 at h
  simp only [Bool.and_eq_true, decide_eq_true_eq] at h
  exact h.1
theorem fits3_all {l : List ByteArray} (h : fits3 l = true) : ∀ x ∈ l, x.size ≤ 2147483647 := by
  unfold fits3 at h
  simp only [Bool.and_eq_true, decide_eq_true_eq, List.all_eq_true] at h
  exact h.2
theorem und24 : Tryz.prog.underlying 32 = some (.slice 9) := by kernel_rfl
theorem sz9 : szB Tryz.prog 9 1 = true := by kernel_rfl
theorem one9 : oneB Tryz.prog 9 = true := by kernel_rfl
theorem boFit : bodyB Tryz.prog 20 = true := by kernel_rfl
set_option maxHeartbeats 1000000 in
theorem fits3_calls (l : List ByteArray) (v : Value) (w : World) (ha : RowAt nof w v l.length (strs l)) (hl : l.length ≤ 9223372036854775806) :
    Calls Tryz.prog 20 #[v] w fun e w' => e = .returned (.bool (fits3 l)) ∧ Below w.heap.size w w' := by
  obtain ⟨A, c, rfl, ha⟩ := ha
  refine enter (fun _ => False) 18 [] Tryz.func20 rfl rfl rfl (vs := [.slice A l.length c]) (Has.nil _) ?_
  conv => arg 2; arg 2; whnf
  have post : ∀ (f : Fr) (m : Mem), Rx.look f 2 = some (.bool (fits3 l)) → PJ ⟨18, [], fun _ => False, w⟩ (bodyPost Tryz.prog Tryz.f20 (fun e w' => e = .returned (.bool (fits3 l)) ∧ Below w.heap.size w w') .ret) f m := fun f m hf =>
    ret1 rfl rfl hf (fun w' hw' => ⟨rfl, hw'.2.below (fun k _ h => h) (Nat.le_refl _)⟩)
  have no : ¬ fits3 l = true → fits3 l = false := fun h => by simpa using h
  repeat' (first | refine cseq ?_ | refine rtext ?_ | refine ctrue rfl ?_ | refine cfalse rfl ?_ | refine cskip ?_ | refine cblk ?_ | refine cret ?_ | refine tret ?_ | refine jnil ?_ | (first | refine jmv rfl rfl rfl ?_ | refine jas_ rfl rfl rfl ?_ | (show Jo _ (.binOp _ _ _ _ _); (refine jgtr rfl rfl rfl rfl (fun hq => ?_) (fun hq => ?_))) | (show Jo _ (.call _); ((show Jo _ (.call ⟨.builtin .len, _, _⟩); refine jy (ylenl rfl und24) rfl rfl ?_)))))
  · exact post _ _ (by rw [no (fun h => by have := fits3_len h; omega)]; rfl)
  refine fin (f' := [(8, .slice A l.length c), (9, .int .i64 l.length), (10, .int .i64 (0 : Nat))]) (m' := [])
    (cloop (ι := Nat) (fun j => [(8, .slice A l.length c), (9, .int .i64 l.length), (10, .int .i64 (j : Nat))]) (fun _ => []) (fun k j => j ≤ l.length ∧ k = l.length - j ∧ ∀ i x, i < j → l[i]? = some x → x.size ≤ 2147483647) l.length 0 ⟨Nat.zero_le _, rfl, fun i x h => absurd h (Nat.not_lt_zero _)⟩ ?_) ⟨rfl, rfl, rfl, trivial⟩ rfl
  rintro k j ⟨hj, rfl, hall⟩ K hK
  by_cases hlt : j < l.length
  · obtain ⟨x, hx⟩ : ∃ x, l[j]? = some x := ⟨_, List.getElem?_eq_getElem hlt⟩
    obtain ⟨ad, rfl, _, hc⟩ := ha j (.string x) (by simp [strs, hx])
    repeat' (first | (show Jo _ (.indexAddr _ _ _); refine jy (yat (p' := ad.add j) rfl rfl und24 sz9 (by omega) (by omega) (by simp)) rfl rfl ?_) | (show Jo _ (.load 9 _); refine jy (yloadw rfl hc (fun h => h) one9) rfl rfl ?_) | first | refine cseq ?_ | refine rtext ?_ | refine ctrue rfl ?_ | refine cfalse rfl ?_ | refine cskip ?_ | refine cblk ?_ | refine cret ?_ | refine tnorm ?_ | refine tret ?_ | refine bret ?_ | refine jnil ?_ | (first | refine jmv rfl rfl rfl ?_ | refine jas_ rfl rfl rfl ?_ | (show Jo _ (.binOp _ _ _ _ _); first | refine jy (yadd (c := ((j + 1 : Nat) : Int)) rfl rfl (by rw [i64_in (by omega) (by omega)]; omega)) rfl rfl ?_ | refine jgtr rfl rfl rfl rfl (fun hq => ?_) (fun hq => ?_) | refine jy (ylss rfl rfl (by (exact decide_eq_true (by omega)))) rfl rfl ?_) | (show Jo _ (.call _); ((show Jo _ (.call ⟨.builtin .len, _, #[9]⟩); refine jy (ylens rfl und9) rfl rfl ?_)))))
    · exact post _ _ (by rw [no (fun h => by have := fits3_all h x (List.mem_of_getElem? hx); omega)]; rfl)
    · exact fin (hK (l.length - (j + 1)) (j + 1) (by omega) ⟨by omega, rfl, fun i y hi hy => by
        rcases Nat.lt_succ_iff_lt_or_eq.1 hi with h | h
        · exact hall i y h hy
        · subst h; rw [hx] at hy; cases hy; omega⟩) ⟨rfl, rfl, rfl, trivial⟩ rfl
  · obtain rfl : j = l.length := by omega
    repeat' (first | refine cseq ?_ | refine rtext ?_ | refine cfalse rfl ?_ | refine cret ?_ | refine cexit ?_ | refine jnil ?_ | (first | refine jas_ rfl rfl rfl ?_ | (show Jo _ (.binOp _ _ _ _ _); (refine jy (ylss rfl rfl (by (exact decide_eq_false (by omega)))) rfl rfl ?_))))
    refine post _ _ ?_
    have : fits3 l = true := by
      unfold fits3
      simp only [Bool.and_eq_true, decide_eq_true_eq, List.all_eq_true]
      exact ⟨by omega, fun x hx => by obtain ⟨i, hi⟩ := List.getElem?_of_mem hx; exact hall i x (List.getElem?_eq_some_iff.1 hi).1 hi⟩
    rw [this]; rfl
theorem fits3_in {X : Cx} {m : Mem} {l : List ByteArray} {v : Value} (ha : RowAt nof X.w0 v l.length (strs l)) (hS : ∀ k, X.S k → False) (hl : l.length ≤ 9223372036854775806) : ∀ w, Cl X m w → Calls Tryz.prog 20 #[v] w fun e w' => e = .returned (.bool (fits3 l)) ∧ Cl X m w' :=
  quietC fun w hw => fits3_calls l v w (ha.of_evo hw.2 hS) hl
theorem drop_bt {s : ByteArray} {j : Nat} (h : j < s.size) : ∃ c : UInt8, s.data.toList.drop j = c :: s.data.toList.drop (j + 1) ∧ Rx.bt s (j : Nat) = (c.toNat : Int) := by
  have hl : j < s.data.toList.length := by rw [size_list]; exact h
  refine ⟨s.data.toList[j], List.drop_eq_getElem_cons hl, ?_⟩
  unfold Rx.bt
  rw [dif_pos (by simpa using h)]
  simp only [Int.toNat_natCast, Array.getElem_toList]
  rfl
theorem boNm : bodyB Tryz.prog 21 = true := by kernel_rfl
def NameF (s : ByteArray) : Prop := Lex0.NameT s.data.toList ∧ s.size < 100
theorem isN_of {c : UInt8} (h : 97 ≤ c.toNat ∧ c.toNat ≤ 122 ∨ 48 ≤ c.toNat ∧ c.toNat ≤ 57 ∨ c.toNat = 95 ∨ c.toNat = 45 ∨ c.toNat = 47) : Lex0.isN c = true := by
  unfold Lex0.isN Lex0.isW
  simp only [Bool.or_eq_true, Bool.and_eq_true, decide_eq_true_eq, beq_iff_eq]
  omega
theorem isW_of {c : UInt8} (h : 97 ≤ c.toNat ∧ c.toNat ≤ 122 ∨ 48 ≤ c.toNat ∧ c.toNat ≤ 57 ∨ c.toNat = 95) : Lex0.isW c = true := by
  unfold Lex0.isW
  simp only [Bool.or_eq_true, Bool.and_eq_true, decide_eq_true_eq, beq_iff_eq]
  omega
theorem pos_of_ne {s : ByteArray} (h : ¬ s = ⟨#[]⟩) : 0 < s.size := by
  rcases Nat.eq_zero_or_pos s.size with h0 | h0
  · refine absurd ?_ h
    rw [data_inj]
    exact List.length_eq_zero_iff.1 (by rw [size_list]; exact h0)
  · exact h0
theorem ne_list {s : ByteArray} (h : ¬ s = ⟨#[]⟩) : s.data.toList ≠ [] := fun e => h (by rw [data_inj]; exact e)
set_option maxHeartbeats 1000000 in
theorem named_calls (s : ByteArray) (w : World) (hs : s.size ≤ 4611686018427387904) : Calls Tryz.prog 21 #[.string s] w fun e w' => ∃ b, e = .returned (.bool b) ∧ Below w.heap.size w w' ∧ (b = true → NameF s) := by
  refine enter (fun _ => False) 64 [] Tryz.func21 rfl rfl rfl (vs := [.string s]) (Has.nil _) ?_
  conv => arg 2; arg 2; whnf
  have post : ∀ (f : Fr) (m : Mem) (b : Bool), (b = true → NameF s) → Rx.look f 2 = some (.bool b) → PJ ⟨64, [], fun _ => False, w⟩ (bodyPost Tryz.prog Tryz.f21 (fun e w' => ∃ b, e = .returned (.bool b) ∧ Below w.heap.size w w' ∧ (b = true → NameF s)) .ret) f m := fun f m b hb hf =>
    ret1 rfl rfl hf (fun w' hw' => ⟨b, rfl, hw'.2.below (fun k _ h => h) (Nat.le_refl _), hb⟩)
  repeat' (first | refine cseq ?_ | refine rtext ?_ | refine cblk ?_ | refine jnil ?_ | ((refine jas_ rfl rfl rfl ?_)))
  refine fin (f' := [(0, .string s), (3, .int .i64 (0 : Nat))]) (m' := [])
    (cloop (ι := Nat) (fun j => [(0, .string s), (3, .int .i64 (j : Nat))]) (fun _ => []) (fun k j => k = s.size - j ∧ j ≤ s.size ∧ ∀ (i : Nat) c, i < j → s.data.toList[i]? = some c → Lex0.isN c = true ∧ (i = 0 → Lex0.isW c = true)) s.size 0 ⟨rfl, by omega, fun i c h => absurd h (Nat.not_lt_zero _)⟩ ?_) ⟨rfl, rfl, trivial⟩ rfl
  rintro k j ⟨rfl, hj, hI⟩ K hK
  by_cases hlt : j < s.size
  case neg =>
    obtain rfl : j = s.size := by omega
    repeat' (first | refine cseq ?_ | refine rtext ?_ | refine cfalse rfl ?_ | refine cret ?_ | refine cexit ?_ | refine jnil ?_ | (first | refine js rfl rfl ?_ | refine jmv rfl rfl rfl ?_ | refine jas_ rfl rfl rfl ?_ | (show Jo _ (.binOp _ _ _ _ _); first | (show Jo _ (.binOp .neq 5 _ _ _); (refine jneq rfl rfl rfl rfl (fun hq => ?_) (fun hq => ?_))) | (show Jo _ (.binOp .neq 9 _ _ _); refine jsneq rfl rfl rfl rfl (fun hne => ?_) (fun hne => ?_)) | (show Jo _ (.binOp .sub _ _ _ _); refine jy (ysub (c := ((s.size - 1 : Nat) : Int)) rfl rfl (by have hz := pos_of_ne hne; rw [i64_in (by omega) (by omega)]; omega)) rfl rfl ?_) | refine jy (ylss rfl rfl (by (exact decide_eq_false (by omega)))) rfl rfl ?_ | refine jlss rfl rfl rfl rfl (fun hq => ?_) (fun hq => ?_)) | (show Jo _ (.pick _ _ _); first | refine jy (ypick1 rfl rfl) rfl rfl ?_ | refine jy (ypick0 rfl rfl) rfl rfl ?_) | (show Jo _ (.call _); ((show Jo _ (.call ⟨.builtin .len, _, _⟩); refine jy (ylens rfl und9) rfl rfl ?_))) | (show Jo _ (.index 9 _ (.const _)); refine jy (yidx (c := Rx.bt s (0 : Nat)) rfl rfl und9 (by omega) (by have hz := pos_of_ne hne; omega) rfl) rfl rfl ?_) | (show Jo _ (.index 9 _ _); (refine jy (yidx (c := Rx.bt _ _) rfl rfl und9 (by omega) (by have hz := pos_of_ne hne; omega) rfl) rfl rfl ?_))))
    all_goals first
      | exact post _ _ false (fun h => by cases h) rfl
      | (refine post _ _ true (fun _ => ⟨⟨ne_list hne, fun c hc => ?_, fun c hc => ?_⟩, by omega⟩) rfl
         · exact (hI 0 c (pos_of_ne hne) (by rw [← List.head?_eq_getElem?]; exact hc)).2 rfl
         · obtain ⟨i, hi, he⟩ := List.mem_iff_getElem.1 hc
           exact (hI i c (by rw [← size_list]; exact hi) (by rw [List.getElem?_eq_getElem hi, he])).1)
  obtain ⟨c, hd, hb⟩ := drop_bt hlt
  have hcj : s.data.toList[j]? = some c := by
    have := congrArg List.head? hd
    rwa [List.head?_drop] at this
  have hN : (97 ≤ c.toNat ∧ c.toNat ≤ 122 ∨ 48 ≤ c.toNat ∧ c.toNat ≤ 57 ∨ c.toNat = 95 ∨ (j ≠ 0 ∧ (c.toNat = 45 ∨ c.toNat = 47))) → ∀ (i : Nat) d, i < j + 1 → s.data.toList[i]? = some d → Lex0.isN d = true ∧ (i = 0 → Lex0.isW d = true) := by
    intro h i d hi hd'
    by_cases hij : i = j
    · subst hij
      rw [hcj] at hd'
      cases hd'
      exact ⟨isN_of (by omega), fun h0 => isW_of (by omega)⟩
    · exact hI i d (by omega) hd'
  repeat' (first | refine cseq ?_ | refine rtext ?_ | refine ctrue rfl ?_ | refine cfalse rfl ?_ | refine cskip ?_ | refine cblk ?_ | refine cret ?_ | refine tnorm ?_ | refine tret ?_ | refine bret ?_ | refine jnil ?_ | (first | refine js rfl rfl ?_ | refine jmv rfl rfl rfl ?_ | refine jas_ rfl rfl rfl ?_ | (show Jo _ (.binOp _ _ _ _ _); first | (show Jo _ (.binOp .add _ _ _ _); refine jy (yadd (c := ((j + 1 : Nat) : Int)) rfl rfl (by rw [i64_in (by omega) (by omega)]; omega)) rfl rfl ?_) | (show Jo _ (.binOp .gtr _ _ _ _); first | refine jy (ygtr rfl rfl (by (exact decide_eq_true (by omega)))) rfl rfl ?_ | refine jgtr rfl rfl rfl rfl (fun hq => ?_) (fun hq => ?_)) | (show Jo _ (.binOp .neq 5 _ _ _); first | refine jy (yneq rfl rfl (by (exact decide_eq_true (by omega)))) rfl rfl ?_ | refine jneq rfl rfl rfl rfl (fun hq => ?_) (fun hq => ?_)) | refine jy (ylss rfl rfl (by first | exact decide_eq_true (by omega) | exact decide_eq_false (by omega))) rfl rfl ?_ | refine jlss rfl rfl rfl rfl (fun hq => ?_) (fun hq => ?_) | refine jeql rfl rfl rfl rfl (fun hq => ?_) (fun hq => ?_)) | (show Jo _ (.pick _ _ _); first | refine jy (ypick1 rfl rfl) rfl rfl ?_ | refine jy (ypick0 rfl rfl) rfl rfl ?_) | (show Jo _ (.index _ _ _); refine jy (yidx (c := bt _ _) rfl rfl und9 (by omega) (by omega) rfl) rfl rfl ?_) | (show Jo _ (.call _); ((show Jo _ (.call ⟨.builtin .len, _, _⟩); refine jy (ylens rfl und9) rfl rfl ?_)))))
  all_goals first
    | exact post _ _ false (fun h => by cases h) rfl
    | exact fin (hK (s.size - (j + 1)) (j + 1) (by omega) ⟨rfl, by omega, hN (by omega)⟩) ⟨rfl, rfl, trivial⟩ rfl
theorem named_in {X : Cx} {m : Mem} {s : ByteArray} (hs : s.size ≤ 4611686018427387904) : ∀ w, Cl X m w → Calls Tryz.prog 21 #[.string s] w fun e w' => ∃ b, e = .returned (.bool b) ∧ Cl X m w' ∧ (b = true → NameF s) := fun w hw =>
  (named_calls s w hs).mono fun e w' ⟨b, h1, h2, h3⟩ => ⟨b, h1, hw.below h2, h3⟩
theorem boPw : bodyB Tryz.prog 43 = true := by kernel_rfl
theorem boPh : bodyB Tryz.prog 64 = true := by kernel_rfl
theorem boPs : bodyB Tryz.prog 66 = true := by kernel_rfl
theorem boSp : bodyB Tryz.prog 54 = true := by kernel_rfl
theorem grS : growB Tryz.prog 32 9 1 16 = true := by kernel_rfl
theorem isSp_eq {c : Nat} {b : Bool} (h : b = true ↔ (c = 32 ∨ 9 ≤ c ∧ c ≤ 13)) : b = Lex0.isSp c := by
  rw [Bool.eq_iff_iff, h]
  unfold Lex0.isSp
  simp only [Bool.or_eq_true, beq_iff_eq]
  omega
theorem pageWhite_calls (c : Nat) (w : World) : Calls Tryz.prog 43 #[.int .u8 (c : Nat)] w fun e w' => e = .returned (.bool (Lex0.isSp c)) ∧ Below w.heap.size w w' := by
  refine enter (fun _ => False) 13 [] Tryz.func43 rfl rfl rfl (vs := [.int .u8 (c : Nat)]) (Has.nil _) ?_
  conv => arg 2; arg 2; whnf
  have post : ∀ (f : Fr) (m : Mem) (b : Bool), (b = true ↔ (c = 32 ∨ 9 ≤ c ∧ c ≤ 13)) → Rx.look f 2 = some (.bool b) → PJ ⟨13, [], fun _ => False, w⟩ (bodyPost Tryz.prog Tryz.f43 (fun e w' => e = .returned (.bool (Lex0.isSp c)) ∧ Below w.heap.size w w') .ret) f m := fun f m b hb hf =>
    ret1 rfl rfl hf (fun w' hw' => ⟨by rw [isSp_eq hb], hw'.2.below (fun k _ h => h) (Nat.le_refl _)⟩)
  repeat' (first | refine cseq ?_ | refine rtext ?_ | refine cret ?_ | refine jnil ?_ | (first | refine js rfl rfl ?_ | refine jmv rfl rfl rfl ?_ | refine jas_ rfl rfl rfl ?_ | (show Jo _ (.binOp _ _ _ _ _); first | (show Jo _ (.binOp .leq _ _ _ _); (refine jleq rfl rfl rfl rfl (fun hq => ?_) (fun hq => ?_))) | refine jeql rfl rfl rfl rfl (fun hq => ?_) (fun hq => ?_) | refine jgeq rfl rfl rfl rfl (fun hq => ?_) (fun hq => ?_)) | (show Jo _ (.pick _ _ _); first | refine jy (ypick1 rfl rfl) rfl rfl ?_ | refine jy (ypick0 rfl rfl) rfl rfl ?_)))
  all_goals first
    | exact post _ _ true (by simp only [true_iff]; omega) rfl
    | exact post _ _ false (by simp only [Bool.false_eq_true, false_iff]; omega) rfl
theorem pageHas_calls (s x : ByteArray) (i : Nat) (w : World) (hs : s.size ≤ 4611686018427387904) (hi : i < s.size) (hx : x.size ≤ 4) (hne : i + x.size ≤ s.size → ¬ s.extract ((i : Nat) : Int).toNat ((i + x.size : Nat) : Int).toNat = x) :
    Calls Tryz.prog 64 #[.string s, .int .i64 (i : Nat), .string x] w fun e w' => e = .returned (.bool false) ∧ Below w.heap.size w w' := by
  refine enter (fun _ => False) 29 [] Tryz.func64 rfl rfl rfl (vs := [.string s, .int .i64 (i : Nat), .string x]) (Has.nil _) ?_
  conv => arg 2; arg 2; whnf
  repeat' (first | refine cseq ?_ | refine rtext ?_ | refine cret ?_ | refine jnil ?_ | (first | refine js rfl rfl ?_ | refine jmv rfl rfl rfl ?_ | refine jas_ rfl rfl rfl ?_ | (show Jo _ (.binOp _ _ _ _ _); first | (show Jo _ (.binOp .add _ _ _ _); refine jy (yadd (c := ((i + x.size : Nat) : Int)) rfl rfl (by rw [i64_in (by omega) (by omega)]; omega)) rfl rfl ?_) | (show Jo _ (.binOp .leq _ _ _ _); refine jleq rfl rfl rfl rfl (fun hq => ?_) (fun hq => ?_)) | (show Jo _ (.binOp .eql 9 _ _ _); refine jy (yseql (c := false) rfl rfl (decide_eq_false (hne (by omega)))) rfl rfl ?_) | refine jy (ygeq rfl rfl (by (exact decide_eq_true (by omega)))) rfl rfl ?_) | (show Jo _ (.pick _ _ _); first | refine jy (ypick1 rfl rfl) rfl rfl ?_ | refine jy (ypick0 rfl rfl) rfl rfl ?_) | (show Jo _ (.slice _ _ _ _ _); refine jy (yslice rfl rfl rfl und9 (by omega) (by omega) (by omega) rfl) rfl rfl ?_) | (show Jo _ (.call _); ((show Jo _ (.call ⟨.builtin .len, _, #[9]⟩); refine jy (ylens rfl und9) rfl rfl ?_)))))
  all_goals exact ret1 rfl rfl rfl (fun w' hw' => ⟨rfl, hw'.2.below (fun k _ h => h) (Nat.le_refl _)⟩)
def wideT : List (List UInt8) := [[194, 133], [194, 160], [225, 154, 128], [226, 128, 128], [226, 128, 129], [226, 128, 130], [226, 128, 131], [226, 128, 132], [226, 128, 133], [226, 128, 134], [226, 128, 135], [226, 128, 136], [226, 128, 137], [226, 128, 138], [226, 128, 168], [226, 128, 169], [226, 128, 175], [226, 129, 159], [227, 128, 128]]
def wides : List ByteArray := wideT.map Lex0.ba
theorem pageSpaces_in {X : Cx} {m : Mem} : ∀ w, Cl X m w → Calls Tryz.prog 66 #[] w fun e w' => ∃ g, e = .returned (.slice (some ⟨g, 0, none⟩) 19 19) ∧ Cl X ((g, strs wides, .c 9) :: m) w' ∧ True := by
  intro w hw
  refine enterC 2 hw Tryz.func66 rfl rfl (vs := []) rfl ?_
  conv => arg 2; arg 2; whnf
  repeat' (first | refine cseq ?_ | refine rtext ?_ | refine cret ?_ | refine jnil ?_ | (first | refine jas_ rfl rfl rfl ?_ | (show Jo _ (.buildSlice _ _ _); refine jlitN (vs := strs wides) (n := 19) (c := strs wides) rfl rfl rfl rfl grS rfl rfl rfl rfl (fun g hg => ?_))))
  exact ret1 rfl rfl rfl (fun w' hw' => ⟨g, rfl, hw.up hw', trivial⟩)
theorem add_at (g j : Nat) : (⟨g, 0, none⟩ : Addr).add (((j : Nat) : Int).toNat * 1) = ⟨g, j, none⟩ := by
  unfold Addr.add
  rw [Int.toNat_natCast, Nat.mul_one]
  by_cases h : j = 0
  · rw [if_pos h, h]
  · rw [if_neg h]
    dsimp only
    rw [Nat.zero_add]
theorem wide_at : ∀ t ∈ wideT, t.length ≤ 4 ∧ ∃ c, t.head? = some c ∧ 128 ≤ c.toNat := by
  intro t ht
  have h : wideT.all (fun t => decide (t.length ≤ 4) && (match t.head? with | none => false | some c => decide (128 ≤ c.toNat))) = true := by decide
  have := List.all_eq_true.1 h t ht
  simp only [Bool.and_eq_true, decide_eq_true_eq] at this
  refine ⟨this.1, ?_⟩
  cases t with
  | nil => exact absurd this.2 (by simp)
  | cons c t => exact ⟨c, rfl, by simpa using this.2⟩
theorem wide_ok {s x : ByteArray} {j i : Nat} (hx : wides[j]? = some x) (ha : ∀ c ∈ s.data.toList, c.toNat < 128) : x.size ≤ 4 ∧ (i + x.size ≤ s.size → ¬ s.extract ((i : Nat) : Int).toNat ((i + x.size : Nat) : Int).toNat = x) := by
  obtain ⟨t, ht, rfl⟩ := List.mem_map.1 (List.mem_of_getElem? hx)
  have h1 : t.length ≤ 4 ∧ ∃ c, t.head? = some c ∧ 128 ≤ c.toNat := wide_at t ht
  obtain ⟨h1, c, h2, h3⟩ := h1
  have hsz : (Lex0.ba t).size = t.length := rfl
  refine ⟨by rw [hsz]; exact h1, fun hi e => ?_⟩
  have hc : c ∈ (Lex0.ba t).data.toList := by
    show c ∈ t
    cases t with
    | nil => cases h2
    | cons a t => cases h2; exact List.mem_cons_self ..
  rw [← e, ext_list] at hc
  have := ha c (List.mem_of_mem_drop (List.mem_of_mem_take hc))
  omega
set_option maxHeartbeats 1000000 in
theorem pageSpace_calls (s : ByteArray) (w : World) (hs : s.size ≤ 4611686018427387904) (ha : ∀ c ∈ s.data.toList, c.toNat < 128) : Calls Tryz.prog 54 #[.string s] w fun e w' => e = .returned (.bool (Lex0.isSpT s.data.toList)) ∧ Below w.heap.size w w' := by
  refine enter (fun _ => False) 38 [] Tryz.func54 rfl rfl rfl (vs := [.string s]) (Has.nil _) ?_
  conv => arg 2; arg 2; whnf
  have post : ∀ (f : Fr) (m : Mem) (b : Bool), Lex0.isSpT s.data.toList = b → Rx.look f 2 = some (.bool b) → PJ ⟨38, [], fun _ => False, w⟩ (bodyPost Tryz.prog Tryz.f54 (fun e w' => e = .returned (.bool (Lex0.isSpT s.data.toList)) ∧ Below w.heap.size w w') .ret) f m := fun f m b hb hf => by
    subst hb
    exact ret1 rfl rfl hf (fun w' hw' => ⟨rfl, hw'.2.below (fun k _ h => h) (Nat.le_refl _)⟩)
  repeat' ((fail_if_success (show PJ _ (Code.wp _ (Code.loop _) _) _ _)); first | first | refine cseq ?_ | refine rtext ?_ | refine cblk ?_ | refine jnil ?_ | (first | refine jas_ rfl rfl rfl ?_ | (show Jo _ (.call _); ((show Jo _ (.call ⟨.value (.func 66), _, _⟩); refine jcall (ι := Nat) (v := fun g => .slice (some ⟨g, 0, none⟩) 19 19) (m' := fun g => (g, strs wides, .c 9) :: []) (fun _ => True) boPs rfl rfl rfl pageSpaces_in (fun g _ => ?_))))))
  refine fin (f' := [(0, .string s), (3, .slice (some ⟨g, 0, none⟩) 19 19), (4, .int .i64 (0 : Nat))]) (m' := [(g, strs wides, .c 9)])
    (cloop (ι := Nat) (fun i => [(0, .string s), (3, .slice (some ⟨g, 0, none⟩) 19 19), (4, .int .i64 (i : Nat))]) (fun _ => [(g, strs wides, .c 9)]) (fun k i => k = s.size - i ∧ i ≤ s.size ∧ Lex0.isSpT s.data.toList = Lex0.isSpT (s.data.toList.drop i)) s.size 0 ⟨rfl, by omega, rfl⟩ ?_) ⟨rfl, rfl, rfl, trivial⟩ rfl
  rintro k i ⟨rfl, hj, heq⟩ K hK
  by_cases hlt : i < s.size
  case neg =>
    obtain rfl : i = s.size := by omega
    rw [List.drop_eq_nil_of_le (by rw [size_list]; exact Nat.le_refl _)] at heq
    repeat' (first | refine cseq ?_ | refine rtext ?_ | refine cfalse rfl ?_ | refine cret ?_ | refine cexit ?_ | refine jnil ?_ | (first | refine jmv rfl rfl rfl ?_ | refine jas_ rfl rfl rfl ?_ | (show Jo _ (.binOp _ _ _ _ _); (refine jy (ylss rfl rfl (by (exact decide_eq_false (by omega)))) rfl rfl ?_)) | (show Jo _ (.call _); ((show Jo _ (.call ⟨.builtin .len, _, #[9]⟩); refine jy (ylens rfl und9) rfl rfl ?_)))))
    exact post _ _ true heq rfl
  obtain ⟨c, hd, hbt⟩ := drop_bt hlt
  rw [hd] at heq
  have heq' : Lex0.isSpT s.data.toList = (Lex0.isSp c.toNat && Lex0.isSpT (s.data.toList.drop (i + 1))) := heq
  cases hc : Lex0.isSp c.toNat
  · rw [hc, Bool.false_and] at heq'
    repeat' ((fail_if_success (show PJ _ (Code.wp _ (Code.loop _) _) _ _)); first | (show Jo _ (.call ⟨.value (.func 43), _, _⟩); refine jcallq (v := .bool false) boPw rfl rfl rfl (quietC fun w _ => by rw [hbt, ← hc]; exact pageWhite_calls c.toNat w) ?_) | first | refine cseq ?_ | refine rtext ?_ | refine ctrue rfl ?_ | refine cfalse rfl ?_ | refine cskip ?_ | refine cblk ?_ | refine jnil ?_ | (first | refine jmv rfl rfl rfl ?_ | refine jas_ rfl rfl rfl ?_ | (show Jo _ (.binOp _ _ _ _ _); (refine jy (ylss rfl rfl (by (exact decide_eq_true (by omega)))) rfl rfl ?_)) | (show Jo _ (.index _ _ _); refine jy (yidx (c := bt _ _) rfl rfl und9 (by omega) (by omega) rfl) rfl rfl ?_) | (show Jo _ (.call _); first | (show Jo _ (.call ⟨.builtin .len, _, #[9]⟩); refine jy (ylens rfl und9) rfl rfl ?_) | (show Jo _ (.call ⟨.builtin .len, _, _⟩); refine jy (ylenl rfl und24) rfl rfl ?_))))
    refine fin (f' := [(0, .string s), (3, .slice (some ⟨g, 0, none⟩) 19 19), (4, .int .i64 (i : Nat)), (5, .int .i64 (0 : Nat)), (19, .slice (some ⟨g, 0, none⟩) 19 19), (20, .int .i64 (19 : Nat)), (21, .int .i64 (0 : Nat))]) (m' := [(g, strs wides, .c 9)])
      (cloop (ι := Nat) (fun j => [(0, .string s), (3, .slice (some ⟨g, 0, none⟩) 19 19), (4, .int .i64 (i : Nat)), (5, .int .i64 (0 : Nat)), (19, .slice (some ⟨g, 0, none⟩) 19 19), (20, .int .i64 (19 : Nat)), (21, .int .i64 (j : Nat))]) (fun _ => [(g, strs wides, .c 9)]) (fun k j => k = 19 - j ∧ j ≤ 19) 19 0 ⟨rfl, by omega⟩ ?_) ⟨rfl, rfl, rfl, rfl, rfl, rfl, rfl, trivial⟩ rfl
    rintro k2 j ⟨rfl, hj2⟩ K2 hK2
    by_cases hl2 : j < 19
    case neg =>
      obtain rfl : j = 19 := by omega
      repeat' (first | refine cseq ?_ | refine rtext ?_ | refine ctrue rfl ?_ | refine cfalse rfl ?_ | refine cret ?_ | refine cexit ?_ | refine tret ?_ | refine bret ?_ | refine jnil ?_ | (first | refine jmv rfl rfl rfl ?_ | refine jas_ rfl rfl rfl ?_ | (show Jo _ (.binOp _ _ _ _ _); first | refine jy (ylss rfl rfl (by (exact decide_eq_false (by omega)))) rfl rfl ?_ | refine jy (yeql rfl rfl (by (exact decide_eq_true (by omega)))) rfl rfl ?_)))
      exact post _ _ false heq' rfl
    obtain ⟨x, hx⟩ : ∃ x, wides[j]? = some x := ⟨_, List.getElem?_eq_getElem (by exact hl2)⟩
    have hxv : nth (strs wides) j = some (.string x) := by rw [nth_eq, strs, List.getElem?_map, hx]; rfl
    repeat' (first | refine cseq ?_ | refine rtext ?_ | refine ctrue rfl ?_ | refine cfalse rfl ?_ | refine cskip ?_ | refine cblk ?_ | refine tnorm ?_ | refine jnil ?_ | (first | refine jmv rfl rfl rfl ?_ | (show Jo _ (.load _ _); (refine jy (yload (i := 0) (v := .string x) rfl rfl hxv one9) rfl rfl ?_)) | refine jas_ rfl rfl rfl ?_ | (show Jo _ (.binOp _ _ _ _ _); first | (show Jo (some 31) (.binOp .add _ _ _ _); refine jy (yadd (c := ((j + 1 : Nat) : Int)) rfl rfl (by rw [i64_in (by omega) (by omega)]; omega)) rfl rfl ?_) | refine jy (ylss rfl rfl (by (exact decide_eq_true (by omega)))) rfl rfl ?_) | (show Jo _ (.call _); ((show Jo _ (.call ⟨.value (.func 64), _, _⟩); refine jcallq boPh rfl rfl rfl (quietC fun w _ => pageHas_calls s x i w hs hlt (wide_ok (i := i) hx ha).1 (wide_ok hx ha).2) ?_))) | (show Jo _ (.indexAddr _ _ _); refine jy (yat (p' := ⟨g, j, none⟩) rfl rfl und24 sz9 (by omega) (by omega) (add_at g j)) rfl rfl ?_)))
    exact fin (hK2 (19 - (j + 1)) (j + 1) (by omega) ⟨rfl, by omega⟩) ⟨rfl, rfl, rfl, rfl, rfl, rfl, rfl, trivial⟩ rfl
  · rw [hc, Bool.true_and] at heq'
    repeat' (first | (show Jo _ (.call ⟨.value (.func 43), _, _⟩); refine jcallq (v := .bool true) boPw rfl rfl rfl (quietC fun w _ => by rw [hbt, ← hc]; exact pageWhite_calls c.toNat w) ?_) | first | refine cseq ?_ | refine rtext ?_ | refine ctrue rfl ?_ | refine cskip ?_ | refine cblk ?_ | refine cexit ?_ | refine tnorm ?_ | refine jnil ?_ | (first | refine jmv rfl rfl rfl ?_ | refine jas_ rfl rfl rfl ?_ | (show Jo _ (.binOp _ _ _ _ _); first | (show Jo _ (.binOp .add _ _ _ _); refine jy (yadd (c := ((i + 1 : Nat) : Int)) rfl rfl (by rw [i64_in (by omega) (by omega)]; omega)) rfl rfl ?_) | refine jy (ylss rfl rfl (by (exact decide_eq_true (by omega)))) rfl rfl ?_) | (show Jo _ (.index _ _ _); refine jy (yidx (c := bt _ _) rfl rfl und9 (by omega) (by omega) rfl) rfl rfl ?_) | (show Jo _ (.call _); ((show Jo _ (.call ⟨.builtin .len, _, #[9]⟩); refine jy (ylens rfl und9) rfl rfl ?_)))))
    exact fin (hK (s.size - (i + 1)) (i + 1) (by omega) ⟨rfl, by omega, heq'⟩) ⟨rfl, rfl, rfl, trivial⟩ rfl
end Go.Proofs.YtkehggbmpdacpaaGreatDoor.Lw
