/- The page laws: texts that all of them use, joined (part 0): Rx. -/
import Derived.WalkKit
import Derived.Deep.Quiet
import Derived.StillTail
import Derived.Below
import Derived.Laws.DeepStrings4
import Derived.Deep.LoopGhost
import Derived.Laws.AppendOwn
import Derived.Laws.MakeOwn
import Derived.Laws.OwnMore
import Derived.Laws.StructEq
import Derived.MapKept
import Derived.Carry
import Derived.Maps.AppendAt
import Derived.Laws.CopyRow
import Derived.Laws.Slices
import Derived.Lib.SliceRun
import Derived.OrdersHeld
import Derived.RegionTactic
import Derived.Laws.RangeAny
import Derived.Laws.IdiomStrings
import Derived.Laws.Cover4
set_option maxRecDepth 100000
set_option linter.unusedVariables false
set_option linter.unusedSimpArgs false
set_option linter.unusedSectionVars false
namespace Go.Rx
open Go.RowKit
structure Evo (S : Nat → Prop) (w w' : World) : Prop where
  os : w'.os = w.os
  tape : w'.tape = w.tape
  output : w'.output = w.output
  size : w.heap.size ≤ w'.heap.size
  block : ∀ k, k < w.heap.size → ¬ S k → w'.heap[k]? = w.heap[k]?
theorem Evo.refl (S : Nat → Prop) (w : World) : Evo S w w := ⟨rfl, rfl, rfl, Nat.le_refl _, fun _ _ _ => rfl⟩
theorem Evo.trans {S : Nat → Prop} {a b c : World} (h : Evo S a b) (k : Evo S b c) : Evo S a c :=
  ⟨k.os.trans h.os, k.tape.trans h.tape, k.output.trans h.output, Nat.le_trans h.size k.size,
    fun i hi hs => (k.block i (Nat.lt_of_lt_of_le hi h.size) hs).trans (h.block i hi hs)⟩
theorem Evo.mono {S T : Nat → Prop} {a b : World} (h : Evo S a b) (hs : ∀ k, k < a.heap.size → S k → T k) : Evo T a b :=
  ⟨h.os, h.tape, h.output, h.size, fun k hk ht => h.block k hk (fun s => ht (hs k hk s))⟩
theorem Evo.of_below {S : Nat → Prop} {a b : World} (h : Below a.heap.size a b) : Evo S a b :=
  ⟨h.os, h.tape, h.output, h.size, fun k hk _ => h.block k hk⟩
theorem Evo.below {B : Nat} {S : Nat → Prop} {a b : World} (h : Evo S a b) (hs : ∀ k, k < B → ¬ S k) (hB : B ≤ a.heap.size) : Below B a b :=
  ⟨h.os, h.tape, h.output, h.size, fun k hk => h.block k (Nat.lt_of_lt_of_le hk hB) (hs k hk)⟩
theorem Evo.drawn {S : Nat → Prop} {a b : World} (n : Nat) (h : Evo S a b) : Evo S a { b with drawn := n } := ⟨h.os, h.tape, h.output, h.size, h.block⟩
abbrev Fr := List (Nat × Value)
def look : Fr → Nat → Option Value
  | [], _ => none
  | (i, v) :: r, j => bif Nat.beq i j then some v else look r j
def put (f : Fr) (d : Option Tmp) (v : Value) : Fr := match d with
  | some d => (d, v) :: f
  | none => f
def evF (f : Fr) : Operand → Option Value
  | .tmp t => look f t
  | .const v => some v
  | .global g => some (.pointer (some ⟨g, 0, none⟩))
  | .func k => some (.func (.func k) #[] #[])
structure Agr (n : Nat) (D : List Deferred) (f : Fr) (a : Act) : Prop where
  size : a.tmps.size = n
  defers : a.defers = D
  slot : ∀ j v, look f j = some v → j < n ∧ a.tmps.getD j undef = v
theorem Agr.eval {n : Nat} {D : List Deferred} {f : Fr} {a : Act} (h : Agr n D f a) {x : Operand} {v : Value} (hx : evF f x = some v) : a.eval x = v := by
  cases x with
  | tmp t => exact (h.slot t v hx).2
  | const u => exact Option.some.inj hx
  | global g => exact Option.some.inj hx
  | func k => exact Option.some.inj hx
theorem Agr.put {n : Nat} {D : List Deferred} {f : Fr} {a : Act} (h : Agr n D f a) {d : Option Tmp} (hd : ∀ t, d = some t → t < n) (v : Value) : Agr n D (put f d v) (a.put d v) := by
  cases d with
  | none => exact h
  | some d =>
    refine ⟨by simp [Act.put, h.size], h.defers, fun j u hj => ?_⟩
    simp only [Rx.put, look, cond_eq_ite, Nat.beq_eq] at hj
    by_cases e : d = j
    · subst e
      simp at hj
      have : d < a.tmps.size := by rw [h.size]; exact hd _ rfl
      exact ⟨hd _ rfl, by simp [Act.put, this, hj]⟩
    · rw [if_neg e] at hj
      have := h.slot j u hj
      refine ⟨this.1, ?_⟩
      have h2 := this.2
      simp only [Act.put, Array.getD_eq_getD_getElem?, Array.getElem?_setIfInBounds, if_neg e] at h2 ⊢
      exact h2
theorem Agr.less {n : Nat} {D : List Deferred} {f f' : Fr} {a : Act} (h : Agr n D f a) (hf : f'.all (fun x => (look f x.1).isSome) = true) (hv : ∀ x ∈ f', look f x.1 = some x.2) : Agr n D f' a := by
  refine ⟨h.size, h.defers, fun j u hj => ?_⟩
  have key : ∀ l : Fr, look l j = some u → (j, u) ∈ l := by
    intro l
    induction l with
    | nil => intro h; cases h
    | cons x l ih =>
      intro h
      obtain ⟨i, v⟩ := x
      simp only [look, cond_eq_ite, Nat.beq_eq] at h
      by_cases e : i = j
      · rw [if_pos e] at h; subst e; rw [Option.some.inj h]; exact List.mem_cons_self
      · rw [if_neg e] at h; exact List.mem_cons_of_mem _ (ih h)
  exact h.slot j u (hv _ (key f' hj))
inductive Bk where
  | c (t : TypeId)
  | m
  | r (t : TypeId)
  | i
instance (n : Nat) : OfNat Bk n := ⟨.c n⟩
instance : Coe TypeId Bk := ⟨.c⟩
def Bk.is : Bk → TypeId → Bool
  | .c t, e => Nat.beq t e
  | .r t, e => Nat.beq t e
  | .m, _ => false
  | .i, _ => false
def BlkAt (w : World) (g : Nat) (c : List Value) : Bk → Prop
  | .c t => w.heap[g]? = some (.cells c.toArray t (0, 0))
  | .m => ∃ es clock, w.heap[g]? = some (.map es clock) ∧ es.toList.flatMap (fun e => [e.key, e.val]) = c
  | .r t => ∃ fr, w.heap[g]? = some (.cells c.toArray t fr)
  | .i => ∃ (s : ByteArray) (p : Nat), w.heap[g]? = some (.stringIter s p) ∧ c = [.string s, .int .i64 p]
theorem BlkAt.eq {w w' : World} {g : Nat} {c : List Value} {k : Bk} (h : BlkAt w g c k) (e : w'.heap[g]? = w.heap[g]?) : BlkAt w' g c k := by
  cases k with
  | c t => exact Eq.trans e h
  | m => obtain ⟨es, cl, h1, h2⟩ := h; exact ⟨es, cl, e.trans h1, h2⟩
  | r t => obtain ⟨fr, h1⟩ := h; exact ⟨fr, e.trans h1⟩
  | i => obtain ⟨s, p, h1, h2⟩ := h; exact ⟨s, p, e.trans h1, h2⟩
theorem BlkAt.lt {w : World} {g : Nat} {c : List Value} {k : Bk} (h : BlkAt w g c k) : g < w.heap.size := by
  cases k with
  | c t => exact (Array.getElem?_eq_some_iff.1 h).1
  | m => obtain ⟨es, cl, h1, h2⟩ := h; exact (Array.getElem?_eq_some_iff.1 h1).1
  | r t => obtain ⟨fr, h1⟩ := h; exact (Array.getElem?_eq_some_iff.1 h1).1
  | i => obtain ⟨s, p, h1, h2⟩ := h; exact (Array.getElem?_eq_some_iff.1 h1).1
theorem BlkAt.type {w : World} {g : Nat} {c c' : List Value} {k : Bk} {e : TypeId} (h : BlkAt w g c k) (h' : w.heap[g]? = some (.cells c'.toArray e (0, 0))) : k.is e = true := by
  cases k with
  | c t =>
    have h : w.heap[g]? = some (.cells c.toArray t (0, 0)) := h
    rw [h'] at h
    injection h with h
    injection h with _ h
    simp [Bk.is, h]
  | m => obtain ⟨es, cl, h1, h2⟩ := h; rw [h'] at h1; cases h1
  | r t =>
    obtain ⟨fr, h⟩ := h
    rw [h'] at h
    injection h with h
    injection h with _ h
    simp [Bk.is, h]
  | i => obtain ⟨s, p, h1, h2⟩ := h; rw [h'] at h1; cases h1
abbrev Mem := List (Nat × List Value × Bk)
def nth : List Value → Nat → Option Value
  | [], _ => none
  | v :: _, 0 => some v
  | _ :: r, i + 1 => nth r i
theorem nth_eq (l : List Value) (i : Nat) : nth l i = l[i]? := by
  induction l generalizing i with
  | nil => rfl
  | cons v r ih => cases i with
    | zero => rfl
    | succ i => simp [nth, ih]
def setL : List Value → Nat → Value → List Value
  | [], _, _ => []
  | _ :: r, 0, u => u :: r
  | v :: r, i + 1, u => v :: setL r i u
theorem setL_eq (l : List Value) (i : Nat) (u : Value) : setL l i u = l.set i u := by
  induction l generalizing i with
  | nil => rfl
  | cons v r ih => cases i with
    | zero => rfl
    | succ i => simp [setL, ih]
structure Has (m : Mem) (w : World) : Prop where
  ne : (m.map (·.1)).Nodup
  blk : ∀ x ∈ m, BlkAt w x.1 x.2.1 x.2.2
theorem Has.nil (w : World) : Has [] w := ⟨List.nodup_nil, by simp⟩
theorem Has.drawn {m : Mem} {w : World} (n : Nat) (h : Has m w) : Has m { w with drawn := n } := ⟨h.ne, h.blk⟩
theorem Has.at {m : Mem} {w : World} (h : Has m w) {i g : Nat} {c : List Value} {t : TypeId} (hi : m[i]? = some (g, c, Bk.c t)) : w.heap[g]? = some (.cells c.toArray t (0, 0)) :=
  h.blk _ (List.mem_of_getElem? hi)
theorem Has.cell {m : Mem} {w : World} (h : Has m w) {i g : Nat} {c : List Value} {t : TypeId} (hi : m[i]? = some (g, c, Bk.c t)) {o : Nat} {v : Value} (hv : nth c o = some v) : w.cell? ⟨g, o, none⟩ = some v := by
  rw [nth_eq] at hv
  simp [World.cell?, h.at hi, hv]
theorem Has.frozen {m : Mem} {w : World} (h : Has m w) {i g : Nat} {c : List Value} {t : TypeId} (hi : m[i]? = some (g, c, Bk.c t)) (o : Nat) : w.frozen? ⟨g, o, none⟩ = false := by
  simp [World.frozen?, h.at hi]
theorem Has.lt {m : Mem} {w : World} (h : Has m w) {x : Nat × List Value × Bk} (hx : x ∈ m) : x.1 < w.heap.size := (h.blk x hx).lt
theorem Has.evo {m : Mem} {S : Nat → Prop} {w w' : World} (h : Has m w) (e : Evo S w w') (hs : ∀ x ∈ m, ¬ S x.1) : Has m w' :=
  ⟨h.ne, fun x hx => (h.blk x hx).eq (e.block _ (h.lt hx) (hs x hx))⟩
theorem Has.below {m : Mem} {w w' : World} (h : Has m w) (e : Below w.heap.size w w') : Has m w' :=
  ⟨h.ne, fun x hx => (h.blk x hx).eq (e.block _ (h.lt hx))⟩
theorem Has.sub {m m' : Mem} {w : World} (h : Has m w) (hs : List.Sublist m' m) : Has m' w :=
  ⟨(hs.map _).nodup h.ne, fun x hx => h.blk x (hs.subset hx)⟩
def setM : Mem → Nat → List Value → Mem
  | [], _, _ => []
  | (g, c, t) :: r, 0, c' => (g, c', t) :: r
  | x :: r, i + 1, c' => x :: setM r i c'
theorem setM_fst (m : Mem) (i : Nat) (c : List Value) : (setM m i c).map (·.1) = m.map (·.1) := by
  induction m generalizing i with
  | nil => rfl
  | cons x r ih =>
    obtain ⟨g, c0, t⟩ := x
    cases i with
    | zero => rfl
    | succ i => simp [setM, ih]
theorem setM_mem {m : Mem} {i : Nat} {c : List Value} {g : Nat} {c0 : List Value} {t : Bk} (hi : m[i]? = some (g, c0, t)) (hn : (m.map (·.1)).Nodup) :
    ∀ x ∈ setM m i c, x = (g, c, t) ∨ (x ∈ m ∧ x.1 ≠ g) := by
  induction m generalizing i with
  | nil => intro x hx; cases hx
  | cons y r ih =>
    obtain ⟨g', c', t'⟩ := y
    simp only [List.map_cons, List.nodup_cons] at hn
    cases i with
    | zero =>
      simp only [List.getElem?_cons_zero, Option.some.injEq, Prod.mk.injEq] at hi
      obtain ⟨rfl, rfl, rfl⟩ := hi
      intro x hx
      simp only [setM, List.mem_cons] at hx
      rcases hx with rfl | hx
      · exact .inl rfl
      · refine .inr ⟨List.mem_cons_of_mem _ hx, fun e => hn.1 ?_⟩
        rw [← e]; exact List.mem_map_of_mem hx
    | succ i =>
      simp only [List.getElem?_cons_succ] at hi
      intro x hx
      simp only [setM, List.mem_cons] at hx
      rcases hx with rfl | hx
      · refine .inr ⟨List.mem_cons_self, fun e => hn.1 ?_⟩
        dsimp only at e; rw [e]
        exact List.mem_map_of_mem (f := (·.1)) (List.mem_of_getElem? hi)
      · rcases ih hi hn.2 x hx with h | ⟨h1, h2⟩
        · exact .inl h
        · exact .inr ⟨List.mem_cons_of_mem _ h1, h2⟩
theorem heap_setCell (w : World) (g o : Nat) (v : Value) (k : Nat) : (w.setCell ⟨g, o, none⟩ v).heap[k]? = if k = g then (w.heap[k]?).map (fun
      | .cells c elem frozen => .cells (c.setIfInBounds o v) elem frozen
      | o => o) else w.heap[k]? := by
  unfold World.setCell
  simp only [Array.getElem?_modify]
  by_cases e : g = k
  · subst e; rw [if_pos rfl, if_pos rfl]; congr 1
  · rw [if_neg e, if_neg (Ne.symm e)]
theorem Has.set {m : Mem} {w : World} (h : Has m w) {i g : Nat} {c : List Value} {t : TypeId} (hi : m[i]? = some (g, c, Bk.c t)) (o : Nat) (v : Value) : Has (setM m i (setL c o v)) (w.setCell ⟨g, o, none⟩ v) := by
  refine ⟨by rw [setM_fst]; exact h.ne, fun x hx => ?_⟩
  rcases setM_mem hi h.ne x hx with rfl | ⟨hx, hne⟩
  · show _ = _
    rw [heap_setCell, if_pos rfl, h.at hi, setL_eq]; simp
  · exact (h.blk x hx).eq (by rw [heap_setCell, if_neg hne])
theorem Evo.set {S : Nat → Prop} {w0 w : World} (h : Evo S w0 w) {g : Nat} (hg : S g ∨ w0.heap.size ≤ g) (o : Nat) (v : Value) : Evo S w0 (w.setCell ⟨g, o, none⟩ v) := by
  refine ⟨h.os, h.tape, h.output, by unfold World.setCell; simpa using h.size, fun k hk hs => ?_⟩
  rw [heap_setCell, if_neg (by rintro rfl; rcases hg with hg | hg; exact hs hg; omega)]
  exact h.block k hk hs
theorem Has.push {m : Mem} {w : World} (h : Has m w) (c : List Value) (t : TypeId) : Has ((w.heap.size, c, t) :: m) (w.alloc (.cells c.toArray t)) := by
  refine ⟨?_, fun x hx => ?_⟩
  · simp only [List.map_cons, List.nodup_cons]
    refine ⟨fun hc => ?_, h.ne⟩
    obtain ⟨x, hx, e⟩ := List.mem_map.1 hc
    have := h.lt hx
    omega
  · simp only [List.mem_cons] at hx
    rcases hx with rfl | hx
    · exact heap_alloc_new w _
    · exact (h.blk x hx).eq (heap_alloc_old w _ (h.lt hx))
theorem Evo.push {S : Nat → Prop} {w0 w : World} (h : Evo S w0 w) (o : Obj) : Evo S w0 (w.alloc o) := by
  refine ⟨h.os, h.tape, h.output, by have := h.size; simp; omega, fun k hk hs => ?_⟩
  have := h.size
  rw [heap_alloc_old w o (by omega)]
  exact h.block k hk hs
structure Cx where
  n : Nat
  D : List Deferred
  S : Nat → Prop
  w0 : World
structure St (X : Cx) (f : Fr) (m : Mem) (a : Act) (w : World) : Prop where
  agr : Agr X.n X.D f a
  has : Has m w
  evo : Evo X.S X.w0 w
structure PJ (X : Cx) (q : Act → World → Prop) (f : Fr) (m : Mem) : Prop where
  of :: out : ∀ a w, St X f m a w → q a w
section code
variable {P : Program} {X : Cx} {Q : Exit → Act → World → Prop} {K : Act → World → Prop} {f : Fr} {m : Mem}
theorem cseq {x y : Code} (h : PJ X (x.wp P (Exit.then (y.wp P Q) Q)) f m) : PJ X ((Code.seq x y).wp P Q) f m := .of fun a w s => wp_seq (h.out a w s)
theorem cblk {id : Nat} {c : Code} (h : PJ X (c.wp P (Exit.inBlock id Q)) f m) : PJ X ((Code.block id c).wp P Q) f m := .of fun a w s => wp_block (h.out a w s)
theorem cskip (h : PJ X (Q .normal) f m) : PJ X (Code.skip.wp P Q) f m := .of fun a w s => wp_skip (h.out a w s)
theorem cret (h : PJ X (Q .ret) f m) : PJ X (Code.ret.wp P Q) f m := .of fun a w s => wp_ret (h.out a w s)
theorem cexit {id : Nat} (h : PJ X (Q (.exit id)) f m) : PJ X ((Code.exit id).wp P Q) f m := .of fun a w s => wp_exit (h.out a w s)
theorem ctrue {c : Operand} {x y : Code} (hc : evF f c = some (.bool true)) (h : PJ X (x.wp P Q) f m) : PJ X ((Code.cond c x y).wp P Q) f m := .of fun a w s => wp_cond_true (s.agr.eval hc) (h.out a w s)
theorem cfalse {c : Operand} {x y : Code} (hc : evF f c = some (.bool false)) (h : PJ X (y.wp P Q) f m) : PJ X ((Code.cond c x y).wp P Q) f m := .of fun a w s => wp_cond_false (s.agr.eval hc) (h.out a w s)
theorem csplit {c : Operand} {x y : Code} {b : Bool} (hc : evF f c = some (.bool b)) (ht : b = true → PJ X (x.wp P Q) f m) (hf : b = false → PJ X (y.wp P Q) f m) : PJ X ((Code.cond c x y).wp P Q) f m :=
  .of fun a w s => wp_cond_split (s.agr.eval hc) (fun e => (ht e).out a w s) (fun e => (hf e).out a w s)
theorem tnorm (h : PJ X K f m) : PJ X (Exit.then K Q .normal) f m := .of h.out
theorem tret (h : PJ X (Q .ret) f m) : PJ X (Exit.then K Q .ret) f m := .of h.out
theorem bnorm {i : Nat} (h : PJ X (Q .normal) f m) : PJ X (Exit.inBlock i Q .normal) f m := .of h.out
theorem bret {i : Nat} (h : PJ X (Q .ret) f m) : PJ X (Exit.inBlock i Q .ret) f m := .of h.out
theorem less {q : Act → World → Prop} {f' : Fr} {m' : Mem} (hv : ∀ x ∈ f', look f x.1 = some x.2) (hm : List.Sublist m' m) (h : PJ X q f' m') : PJ X q f m := .of fun a w s => by
  refine h.out a w ⟨s.agr.less ?_ hv, s.has.sub hm, s.evo⟩
  rw [List.all_eq_true]; intro x hx; rw [hv x hx]; rfl
theorem conv {q q' : Act → World → Prop} (h : ∀ a w, q a w → q' a w) (hq : PJ X q f m) : PJ X q' f m := .of fun a w s => h a w (hq.out a w s)
end code
end Go.Rx
namespace Go.Rx
open Go.RowKit
def Cl (X : Cx) (m : Mem) (w : World) : Prop := Has m w ∧ Evo X.S X.w0 w
def J0 (qt : Bool) (X : Cx) (P : Program) (ops : Array Oper) (Q : Exit → Act → World → Prop) (K : Act → World → Prop) (l : List Oper) (f : Fr) (m : Mem) : Prop := match qt with
  | false => ∀ a w, St X f m a w → wpList P ops (Exit.then K Q) l a w
  | true => ∀ a, Agr X.n X.D f a → wpQuiet P ops (Cl X m) (fun a' => ∀ w', Cl X m w' → K a' w') l a
structure J (qt : Bool) (X : Cx) (P : Program) (ops : Array Oper) (Q : Exit → Act → World → Prop) (K : Act → World → Prop) (l : List Oper) (f : Fr) (m : Mem) : Prop where
  of :: out : J0 qt X P ops Q K l f m
section
variable {qt : Bool} {X : Cx} {P : Program} {ops : Array Oper} {Q : Exit → Act → World → Prop} {K : Act → World → Prop} {l rest : List Oper} {f : Fr} {m : Mem} {o : Oper}
theorem then_self (Q : Exit → Act → World → Prop) : Exit.then (Q .normal) Q = Q := by
  funext e a w; cases e <;> rfl
theorem rtext {id : Nat} (h : J false X P l.toArray Q (Q .normal) l f m) : PJ X ((Code.region id l.toArray false).wp P Q) f m := .of fun a w s => by
  have := h.out a w s
  rw [then_self] at this
  exact wp_region_lit this
theorem rquiet {id : Nat} (hm : P.follows .mixedOrders = true) (hB : Region.lexB .any l.toArray = true) (h : J true X P l.toArray Q (Q .normal) l f m) : PJ X ((Code.region id l.toArray true).wp P Q) f m := .of fun a w s =>
  wp_region_quiet (C := Cl X m) hm hB ⟨s.has.drawn _, s.evo.drawn _⟩ (by simpa using h.out a s.agr)
theorem jlist (h : J false X P ops Q (Q .normal) l f m) : PJ X (wpList P ops Q l) f m := .of fun a w s => by
  have := h.out a w s
  rwa [then_self] at this
theorem jnil (h : PJ X K f m) : J qt X P ops Q K [] f m := by
  cases qt with
  | false => exact ⟨h.out⟩
  | true => exact ⟨fun a ha => wpQuiet_nil fun w' hw => h.out a w' ⟨ha, hw.1, hw.2⟩⟩
def wantedF (ops : Array Oper) (f : Fr) (o : Oper) : Option Bool := match o.guard with
  | none => some true
  | some (j, want) => match (ops[j]?).bind (·.dst) with
    | some t => match look f t with
      | some (.bool b) => some (b == want)
      | some _ => some false
      | none => none
    | none => none
theorem wanted_of {a : Act} {b : Bool} (h : wantedF ops f o = some b) (ha : Agr X.n X.D f a) : Region.wanted o (yielded ops a.tmps) = b := by
  unfold wantedF at h
  unfold Region.wanted
  cases hg : o.guard with
  | none => simp [hg] at h; simp [h]
  | some g =>
    obtain ⟨j, want⟩ := g
    simp only [hg] at h
    cases ho : (ops[j]?).bind (·.dst) with
    | none => simp [ho] at h
    | some t =>
      simp only [ho] at h
      cases hl : look f t with
      | none => simp [hl] at h
      | some v =>
        have h2 := ha.slot t v hl
        have h3 : a.tmps[t]? = some v := by
          have hlt : t < a.tmps.size := by rw [ha.size]; exact h2.1
          have := h2.2
          simp only [Array.getD_eq_getD_getElem?, Array.getElem?_eq_getElem hlt, Option.getD_some] at this
          rw [Array.getElem?_eq_getElem hlt, this]
        simp only [yielded, ho, Option.bind_some, h3]
        cases v with
        | bool c => simp only [hl] at h; rw [← Option.some.inj h]; cases c <;> cases want <;> rfl
        | _ => simp only [hl] at h; rw [← Option.some.inj h]; rfl
def dstB (n : Nat) (o : Oper) : Bool := match o.dst with
  | some t => Nat.blt t n
  | none => true
theorem dst_of (h : dstB X.n o = true) : ∀ t, o.dst = some t → t < X.n := fun t ht => by
  simpa [dstB, ht] using h
theorem jskip (hw : wantedF ops f o = some false) (hd : dstB X.n o = true) (h : J qt X P ops Q K rest (put f o.dst undef) m) : J qt X P ops Q K (o :: rest) f m := by
  cases qt with
  | false =>
    refine ⟨fun a w s => ?_⟩
    have hw' := wanted_of hw s.agr
    unfold wpList
    rw [if_neg (by rw [hw']; exact Bool.false_ne_true)]
    exact h.out _ _ ⟨s.agr.put (dst_of hd) _, s.has, s.evo⟩
  | true =>
    refine ⟨fun a ha => ?_⟩
    have hw' := wanted_of hw ha
    unfold wpQuiet
    rw [if_neg (by rw [hw']; exact Bool.false_ne_true)]
    exact h.out _ (ha.put (dst_of hd) _)
structure Yl (X : Cx) (P : Program) (f : Fr) (m : Mem) (o : Oper) (v : Value) : Prop where
  of :: out : ∀ a w, St X f m a w → (execOp a.eval o).run P w = .ok (.value v) w
theorem jy0 {v : Value} (hw : wantedF ops f o = some true) (hd : dstB X.n o = true) (hy : Yl X P f m o v) (h : J qt X P ops Q K rest (put f o.dst v) m) : J qt X P ops Q K (o :: rest) f m := by
  cases qt with
  | false =>
    refine ⟨fun a w s => ?_⟩
    have hw' := wanted_of hw s.agr
    unfold wpList
    rw [if_pos hw']
    refine .inl ?_
    unfold Oper.wp
    rw [hy.out a w s]
    exact h.out _ _ ⟨s.agr.put (dst_of hd) _, s.has, s.evo⟩
  | true =>
    refine ⟨fun a ha => ?_⟩
    have hw' := wanted_of hw ha
    unfold wpQuiet
    rw [if_pos hw']
    refine ⟨v, fun w hC => ?_, h.out _ (ha.put (dst_of hd) _)⟩
    unfold Oper.quietAt
    rw [hy.out a w ⟨ha, hC.1, hC.2⟩]
    exact ⟨rfl, rfl⟩
theorem jy {d : Nat} {op : Op} {ty : TypeId} {pos : String} {af : Array Edge} {gd : Option (Nat × Bool)} {v : Value} (hy : Yl X P f m ⟨some d, op, ty, pos, af, gd⟩ v) (hw : wantedF ops f ⟨some d, op, ty, pos, af, gd⟩ = some true) (hd : Nat.blt d X.n = true)
    (h : J qt X P ops Q K rest ((d, v) :: f) m) : J qt X P ops Q K (⟨some d, op, ty, pos, af, gd⟩ :: rest) f m := jy0 hw hd hy h
theorem js {d : Nat} {op : Op} {ty : TypeId} {pos : String} {af : Array Edge} {gd : Nat × Bool} (hw : wantedF ops f ⟨some d, op, ty, pos, af, some gd⟩ = some false) (hd : Nat.blt d X.n = true)
    (h : J qt X P ops Q K rest ((d, undef) :: f) m) : J qt X P ops Q K (⟨some d, op, ty, pos, af, some gd⟩ :: rest) f m := jskip hw hd h
theorem jeff {ι : Sort _} {v : ι → Value} {m' : ι → Mem} (p : ι → Prop) (hw : wantedF ops f o = some true) (hd : dstB X.n o = true)
    (hy : ∀ a w, St X f m a w → ∃ i w', ((execOp a.eval o).run P w = .ok (.value (v i)) w' ∨ ((execOp a.eval o).run P w = .ok .skip w' ∧ v i = undef)) ∧ Has (m' i) w' ∧ Evo X.S X.w0 w' ∧ p i)
    (h : ∀ i, p i → J false X P ops Q K rest (put f o.dst (v i)) (m' i)) : J false X P ops Q K (o :: rest) f m := by
  refine ⟨fun a w s => ?_⟩
  have hw' := wanted_of hw s.agr
  obtain ⟨i, w', hr, hh, he, hp⟩ := hy a w s
  unfold wpList
  rw [if_pos hw']
  refine .inl ?_
  unfold Oper.wp
  rcases hr with hr | ⟨hr, hv⟩
  · rw [hr]
    exact (h i hp).out _ _ ⟨s.agr.put (dst_of hd) _, hh, he⟩
  · rw [hr]
    have := (h i hp).out _ w' ⟨s.agr.put (dst_of hd) _, hh, he⟩
    rw [hv] at this
    exact this
def callF (f : Fr) : List Operand → Option (List Value)
  | [] => some []
  | x :: r => match evF f x, callF f r with
    | some v, some vs => some (v :: vs)
    | _, _ => none
theorem callF_eval {a : Act} (ha : Agr X.n X.D f a) : ∀ (l : List Operand) {vs : List Value}, callF f l = some vs → l.map a.eval = vs
  | [], vs, h => by simp [callF] at h; simp [h]
  | x :: r, vs, h => by
    unfold callF at h
    split at h
    · rename_i v vs' h1 h2
      obtain rfl := Option.some.inj h
      simp [ha.eval h1, callF_eval ha r h2]
    · cases h
def bodyB (P : Program) (k : Nat) : Bool := match P.funcs[k]? with
  | some fn => fn.body.isSome && !(fn.name == "runtime.NumGoroutine")
  | none => false
theorem run_call {a : Act} {k : Nat} {as0 : List Operand} {tys : Array TypeId} {d : Option Tmp} {ty : TypeId} {pos : String} {af : Array Edge} {gd : Option (Nat × Bool)} {vs : List Value} {w : World}
    (hb : bodyB P k = true) (ha : Agr X.n X.D f a) (hv : callF f as0 = some vs) :
    (execOp a.eval ⟨d, .call ⟨.value (.func k), as0.toArray, tys⟩, ty, pos, af, gd⟩).run P w = .ok (.enter k vs.toArray) w := by
  have hm := callF_eval ha as0 hv
  unfold bodyB at hb
  cases hf : P.funcs[k]? with
  | none => simp [hf] at hb
  | some fn =>
    simp only [hf, Bool.and_eq_true, Bool.not_eq_true', beq_eq_false_iff_ne] at hb
    obtain ⟨h1, h2⟩ := hb
    have h3 : fn.body.isNone = false := by cases h : fn.body <;> simp [h] at h1 ⊢
    have h4 : (fn.name == "runtime.NumGoroutine") = false := by simpa using h2
    simp [execOp, resolve, Deferred.ofValue, invoke, callFunc, Act.eval, Sem.run_bind, program, Sem.run, hf, hm, pure]
    rw [if_neg (by simpa using h2), if_neg (by intro e; rw [e] at h3; cases h3)]
theorem jcallq {k : Nat} {as0 : List Operand} {tys : Array TypeId} {d : Nat} {ty : TypeId} {pos : String} {af : Array Edge} {gd : Option (Nat × Bool)} {vs : List Value} {v : Value}
    (hb : bodyB P k = true) (hw : wantedF ops f ⟨some d, .call ⟨.value (.func k), as0.toArray, tys⟩, ty, pos, af, gd⟩ = some true) (hd : Nat.blt d X.n = true) (hv : callF f as0 = some vs)
    (hc : ∀ w, Cl X m w → Calls P k vs.toArray w fun e w' => e = .returned v ∧ Cl X m w')
    (h : J qt X P ops Q K rest ((d, v) :: f) m) : J qt X P ops Q K (⟨some d, .call ⟨.value (.func k), as0.toArray, tys⟩, ty, pos, af, gd⟩ :: rest) f m := by
  cases qt with
  | false =>
    refine ⟨fun a w s => ?_⟩
    have hw' := wanted_of hw s.agr
    unfold wpList
    rw [if_pos hw']
    refine .inl ?_
    unfold Oper.wp
    rw [run_call hb s.agr hv]
    refine (hc w ⟨s.has, s.evo⟩).mono ?_
    rintro e w' ⟨rfl, hh, he⟩
    exact h.out _ _ ⟨s.agr.put (d := some d) (dst_of (o := ⟨some d, .call ⟨.value (.func k), as0.toArray, tys⟩, ty, pos, af, gd⟩) hd) _, hh, he⟩
  | true =>
    refine ⟨fun a ha => ?_⟩
    have hw' := wanted_of hw ha
    unfold wpQuiet
    rw [if_pos hw']
    refine ⟨v, fun w hC => ?_, h.out _ (ha.put (d := some d) (dst_of (o := ⟨some d, .call ⟨.value (.func k), as0.toArray, tys⟩, ty, pos, af, gd⟩) hd) _)⟩
    unfold Oper.quietAt
    rw [run_call hb ha hv]
    exact ⟨rfl, hc w hC⟩
theorem jcall {k : Nat} {as0 : List Operand} {tys : Array TypeId} {d : Nat} {ty : TypeId} {pos : String} {af : Array Edge} {gd : Option (Nat × Bool)} {vs : List Value} {ι : Sort _} {v : ι → Value} {m' : ι → Mem} (p : ι → Prop)
    (hb : bodyB P k = true) (hw : wantedF ops f ⟨some d, .call ⟨.value (.func k), as0.toArray, tys⟩, ty, pos, af, gd⟩ = some true) (hd : Nat.blt d X.n = true) (hv : callF f as0 = some vs)
    (hc : ∀ w, Cl X m w → Calls P k vs.toArray w fun e w' => ∃ i, e = .returned (v i) ∧ Cl X (m' i) w' ∧ p i)
    (h : ∀ i, p i → J false X P ops Q K rest ((d, v i) :: f) (m' i)) : J false X P ops Q K (⟨some d, .call ⟨.value (.func k), as0.toArray, tys⟩, ty, pos, af, gd⟩ :: rest) f m := by
  refine ⟨fun a w s => ?_⟩
  have hw' := wanted_of hw s.agr
  unfold wpList
  rw [if_pos hw']
  refine .inl ?_
  unfold Oper.wp
  rw [run_call hb s.agr hv]
  refine (hc w ⟨s.has, s.evo⟩).mono ?_
  rintro e w' ⟨i, rfl, ⟨hh, he⟩, hp⟩
  exact (h i hp).out _ _ ⟨s.agr.put (d := some d) (dst_of (o := ⟨some d, .call ⟨.value (.func k), as0.toArray, tys⟩, ty, pos, af, gd⟩) hd) _, hh, he⟩
end
end Go.Rx
namespace Go.Rx
open Go.RowKit
section
variable {X : Cx} {P : Program} {f : Fr} {m : Mem} {d : Option Tmp} {ty : TypeId} {pos : String} {af : Array Edge} {gd : Option (Nat × Bool)}
theorem ymove {x : Operand} {v : Value} (hx : evF f x = some v) : Yl X P f m ⟨d, .move x, ty, pos, af, gd⟩ v := .of fun a w s => by
  simp [execOp, s.agr.eval hx]
theorem yassign {x : Operand} {v : Value} (hx : evF f x = some v) : Yl X P f m ⟨d, .assign x, ty, pos, af, gd⟩ v := .of fun a w s => by
  simp [execOp, s.agr.eval hx]
theorem ynil {x : Operand} {p : Addr} (hx : evF f x = some (.pointer (some p))) : Yl X P f m ⟨d, .nilCheck x, ty, pos, af, gd⟩ (.pointer (some p)) := .of fun a w s => by
  simp [execOp, s.agr.eval hx]
theorem ypick1 {c x y : Operand} {v : Value} (hc : evF f c = some (.bool true)) (hx : evF f x = some v) : Yl X P f m ⟨d, .pick c x y, ty, pos, af, gd⟩ v := .of fun a w s => by
  simp [execOp, s.agr.eval hc, s.agr.eval hx, asBool]
theorem ypick0 {c x y : Operand} {v : Value} (hc : evF f c = some (.bool false)) (hx : evF f y = some v) : Yl X P f m ⟨d, .pick c x y, ty, pos, af, gd⟩ v := .of fun a w s => by
  simp [execOp, s.agr.eval hc, s.agr.eval hx, asBool]
theorem ynot {x : Operand} {b c : Bool} {ty' : TypeId} (hx : evF f x = some (.bool b)) (hc : (!b) = c) : Yl X P f m ⟨d, .unOp .not ty x, ty', pos, af, gd⟩ (.bool c) := .of fun a w s => by
  subst hc
  simp [execOp, s.agr.eval hx, Op.unary]
theorem yadd {x y : Operand} {k : IntKind} {i j c : Int} {t t' : TypeId} (hx : evF f x = some (.int k i)) (hy : evF f y = some (.int k j)) (hc : k.wrap (i + j) = c) : Yl X P f m ⟨d, .binOp .add t x y t', ty, pos, af, gd⟩ (.int k c) := .of fun a w s => by
  subst hc
  simp [execOp, s.agr.eval hx, s.agr.eval hy, binOp, Op.intArith, eqGuard]
theorem ysub {x y : Operand} {k : IntKind} {i j c : Int} {t t' : TypeId} (hx : evF f x = some (.int k i)) (hy : evF f y = some (.int k j)) (hc : k.wrap (i - j) = c) : Yl X P f m ⟨d, .binOp .sub t x y t', ty, pos, af, gd⟩ (.int k c) := .of fun a w s => by
  subst hc
  simp [execOp, s.agr.eval hx, s.agr.eval hy, binOp, Op.intArith, eqGuard]
theorem beqI (i j : Int) : (i == j) = decide (i = j) := by by_cases h : i = j <;> simp [h]
theorem bneI (i j : Int) : (i != j) = decide (i ≠ j) := by by_cases h : i = j <;> simp [h]
theorem eqG (op : BinOp) (t : TypeId) (x y : Operand) (k k' : IntKind) (i j : Int) : eqGuard op t x y (.int k i) (.int k' j) = pure () := by cases op <;> rfl
theorem ylss {x y : Operand} {k : IntKind} {i j : Int} {c : Bool} {t t' : TypeId} (hx : evF f x = some (.int k i)) (hy : evF f y = some (.int k j)) (hc : decide (i < j) = c) : Yl X P f m ⟨d, .binOp .lss t x y t', ty, pos, af, gd⟩ (.bool c) := .of fun a w s => by
  subst hc
  simp [execOp, s.agr.eval hx, s.agr.eval hy, binOp, Op.intCmp, eqG]
theorem yleq {x y : Operand} {k : IntKind} {i j : Int} {c : Bool} {t t' : TypeId} (hx : evF f x = some (.int k i)) (hy : evF f y = some (.int k j)) (hc : decide (i ≤ j) = c) : Yl X P f m ⟨d, .binOp .leq t x y t', ty, pos, af, gd⟩ (.bool c) := .of fun a w s => by
  subst hc
  simp [execOp, s.agr.eval hx, s.agr.eval hy, binOp, Op.intCmp, eqG]
theorem ygtr {x y : Operand} {k : IntKind} {i j : Int} {c : Bool} {t t' : TypeId} (hx : evF f x = some (.int k i)) (hy : evF f y = some (.int k j)) (hc : decide (j < i) = c) : Yl X P f m ⟨d, .binOp .gtr t x y t', ty, pos, af, gd⟩ (.bool c) := .of fun a w s => by
  subst hc
  simp [execOp, s.agr.eval hx, s.agr.eval hy, binOp, Op.intCmp, eqG]
theorem ygeq {x y : Operand} {k : IntKind} {i j : Int} {c : Bool} {t t' : TypeId} (hx : evF f x = some (.int k i)) (hy : evF f y = some (.int k j)) (hc : decide (j ≤ i) = c) : Yl X P f m ⟨d, .binOp .geq t x y t', ty, pos, af, gd⟩ (.bool c) := .of fun a w s => by
  subst hc
  simp [execOp, s.agr.eval hx, s.agr.eval hy, binOp, Op.intCmp, eqG]
theorem yeql {x y : Operand} {k : IntKind} {i j : Int} {c : Bool} {t t' : TypeId} (hx : evF f x = some (.int k i)) (hy : evF f y = some (.int k j)) (hc : decide (i = j) = c) : Yl X P f m ⟨d, .binOp .eql t x y t', ty, pos, af, gd⟩ (.bool c) := .of fun a w s => by
  subst hc
  simp [execOp, s.agr.eval hx, s.agr.eval hy, binOp, Op.intCmp, eqG, beqI]
theorem yneq {x y : Operand} {k : IntKind} {i j : Int} {c : Bool} {t t' : TypeId} (hx : evF f x = some (.int k i)) (hy : evF f y = some (.int k j)) (hc : decide (i ≠ j) = c) : Yl X P f m ⟨d, .binOp .neq t x y t', ty, pos, af, gd⟩ (.bool c) := .of fun a w s => by
  subst hc
  simp [execOp, s.agr.eval hx, s.agr.eval hy, binOp, Op.intCmp, eqG, bneI]
def bt (s : ByteArray) (i : Int) : Int := if h : i.toNat < s.size then ((s[i.toNat]'h).toNat : Int) else 0
theorem yidx {x y : Operand} {s : ByteArray} {k : IntKind} {i c : Int} {t : TypeId} (hx : evF f x = some (.string s)) (hy : evF f y = some (.int k i)) (ht : P.underlying t = some .string) (h0 : 0 ≤ i) (h1 : i < s.size) (hc : bt s i = c) :
    Yl X P f m ⟨d, .index t x y, ty, pos, af, gd⟩ (.int .u8 c) := .of fun a w st => by
  subst hc
  have h2 : i.toNat < s.size := by omega
  simp [execOp, st.agr.eval hx, st.agr.eval hy, run_index_string w t s k i ht, h0, h1, bt, h2]
theorem yslice {x lo hi : Operand} {s r : ByteArray} {k k' : IntKind} {i j : Int} {t : TypeId} (hx : evF f x = some (.string s)) (hl : evF f lo = some (.int k i)) (hh : evF f hi = some (.int k' j)) (ht : P.underlying t = some .string)
    (h0 : 0 ≤ i) (h1 : i ≤ j) (h2 : j ≤ s.size) (hr : s.extract i.toNat j.toNat = r) :
    Yl X P f m ⟨d, .slice t x (some lo) (some hi) none, ty, pos, af, gd⟩ (.string r) := .of fun a w st => by
  subst hr
  have := run_slice_string (P := P) w t s k k' i j ht h0 h1 h2
  simp [execOp, st.agr.eval hx, st.agr.eval hl, st.agr.eval hh, run_sliceAt_string w t _ _ _ _ ht, this]
theorem ylens {x : Operand} {s : ByteArray} {t : TypeId} (hx : evF f x = some (.string s)) (ht : P.underlying t = some .string) :
    Yl X P f m ⟨d, .call ⟨.builtin .len, #[x], #[t]⟩, ty, pos, af, gd⟩ (.int .i64 s.size) := .of fun a w st => by
  simp [execOp, resolve, invoke, builtin, st.agr.eval hx, Builtin.len_, run_underlying ht, goInt]
theorem ylenl {x : Operand} {A : Option Addr} {n c : Nat} {t e : TypeId} (hx : evF f x = some (.slice A n c)) (ht : P.underlying t = some (.slice e)) :
    Yl X P f m ⟨d, .call ⟨.builtin .len, #[x], #[t]⟩, ty, pos, af, gd⟩ (.int .i64 n) := .of fun a w st => by
  simp [execOp, resolve, invoke, builtin, st.agr.eval hx, Builtin.len_, run_underlying ht, goInt]
def fieldB (P : Program) (s i : Nat) : Option Nat := match P.underlying s with
  | some (.struct fs) => match fs[i]? with
    | some fl => match P.info? fl.type with
      | some inf => bif Nat.beq inf.size 0 then none else some fl.offset
      | none => none
    | none => none
  | _ => none
theorem yfield {x : Operand} {s i g o o' e : Nat} (hx : evF f x = some (.pointer (some ⟨g, o, none⟩))) (hf : fieldB P s i = some e) (ho : o + e = o') : Yl X P f m ⟨d, .fieldAddr s x i, ty, pos, af, gd⟩ (.pointer (some ⟨g, o', none⟩)) := .of fun a w st => by
  subst ho
  unfold fieldB at hf
  split at hf
  · rename_i fs hu
    split at hf
    · rename_i fl hfl
      split at hf
      · rename_i inf hi
        simp only [cond_eq_ite, Nat.beq_eq] at hf
        split at hf
        · cases hf
        · rename_i hz
          obtain rfl := Option.some.inj hf
          have ha : (⟨g, o, none⟩ : Addr).add fl.offset = ⟨g, o + fl.offset, none⟩ := by unfold Addr.add; split <;> simp_all
          simp [execOp, st.agr.eval hx, Instr.fieldAt, run_underlying hu, hfl, Instr.sureAddr, fieldPlace, sizeOf, typeInfo, hi, hz, ha]
      · cases hf
    · cases hf
  · cases hf
def oneB (P : Program) (t : Nat) : Bool := match P.underlying t with
  | some (.struct _) => false
  | some (.array _ _) => false
  | some _ => true
  | none => false
theorem run_loadVar_one {t : Nat} {p : Addr} {v : Value} {w : World} (ht : oneB P t = true) (hc : w.cell? p = some v) : (loadVar t p).run P w = .ok v w := by
  unfold oneB at ht
  cases hu : P.underlying t with
  | none => simp [hu] at ht
  | some u =>
    have : (isAgg t).run P w = .ok false w := by
      unfold isAgg
      rw [Sem.run_bind, run_underlying hu w]
      cases u <;> simp_all
    simp [loadVar, this, run_load, hc]
theorem yload {x : Operand} {t g o i : Nat} {c : List Value} {tt : TypeId} {v : Value} (hx : evF f x = some (.pointer (some ⟨g, o, none⟩))) (hm : m[i]? = some (g, c, Bk.c tt)) (hv : nth c o = some v) (ht : oneB P t = true) :
    Yl X P f m ⟨d, .load t x, ty, pos, af, gd⟩ v := .of fun a w st => by
  simp [execOp, st.agr.eval hx, Instr.loadAt, Instr.sureAddr, run_loadVar_one ht (st.has.cell hm hv)]
theorem yloadw {x : Operand} {t : Nat} {p : Addr} {v : Value} (hx : evF f x = some (.pointer (some p))) (hv : X.w0.cell? p = some v) (hs : ¬ X.S p.block) (ht : oneB P t = true) :
    Yl X P f m ⟨d, .load t x, ty, pos, af, gd⟩ v := .of fun a w st => by
  have hlt : p.block < X.w0.heap.size := by
    rcases Nat.lt_or_ge p.block X.w0.heap.size with h | h
    · exact h
    · simp [World.cell?, Array.getElem?_eq_none h] at hv
  have hc : w.cell? p = some v := by
    unfold World.cell?
    rw [st.evo.block _ hlt hs]
    exact hv
  simp [execOp, st.agr.eval hx, Instr.loadAt, Instr.sureAddr, run_loadVar_one ht hc]
def aggB (P : Program) (t n : Nat) : Bool := match P.underlying t with
  | some (.struct _) => match P.info? t with
    | some i => Nat.beq i.size n
    | none => false
  | _ => false
theorem aggB_size {t n : Nat} (h : aggB P t n = true) : (P.info? t).map (·.size) = some n ∧ ∃ fs, P.underlying t = some (.struct fs) := by
  unfold aggB at h
  split at h
  · rename_i fs hu
    split at h
    · rename_i i hi
      simp [hi, Nat.eq_of_beq_eq_true h, hu]
    · cases h
  · cases h
theorem yloads {x : Operand} {t g i : Nat} {c : List Value} {tt : TypeId} (hx : evF f x = some (.pointer (some ⟨g, 0, none⟩))) (hm : m[i]? = some (g, c, Bk.c tt)) (ht : aggB P t c.length = true) :
    Yl X P f m ⟨d, .load t x, ty, pos, af, gd⟩ (.agg c.toArray) := .of fun a w st => by
  obtain ⟨h1, fs, h2⟩ := aggB_size ht
  simp [execOp, st.agr.eval hx, Instr.loadAt, Instr.sureAddr, run_loadVar_row w g tt t c.toArray (0, 0) _ (st.has.at hm) h2 rfl (by simpa using h1)]
def partsF (f : Fr) : List (Nat × Operand) → Option (List (Nat × Value))
  | [] => some []
  | (i, x) :: r => match evF f x, partsF f r with
    | some v, some vs => some ((i, v) :: vs)
    | _, _ => none
theorem partsF_eval {a : Act} (ha : Agr X.n X.D f a) : ∀ (l : List (Nat × Operand)) {vs : List (Nat × Value)}, partsF f l = some vs → l.map (fun q => (q.1, a.eval q.2)) = vs
  | [], vs, h => by simp [partsF] at h; simp [h]
  | (i, x) :: r, vs, h => by
    unfold partsF at h
    split at h
    · rename_i v vs' h1 h2
      obtain rfl := Option.some.inj h
      simp [ha.eval h1, partsF_eval ha r h2]
    · cases h
theorem ybuild {t : Nat} {l : List (Nat × Operand)} {vs : List (Nat × Value)} {c : Array Value} (hv : partsF f l = some vs) (hc : P.built t vs = some c) : Yl X P f m ⟨d, .build t l.toArray, ty, pos, af, gd⟩ (.agg c) := .of fun a w st => by
  have h1 := partsF_eval st.agr l hv
  have h2 : (l.toArray.map fun (q : Nat × Operand) => (q.1, a.eval q.2)).toList = vs := by simpa using h1
  have h3 := run_build (P := P) w t (l.toArray.map fun (q : Nat × Operand) => (q.1, a.eval q.2)) c (by rw [h2]; exact hc)
  unfold execOp
  simp only [Sem.run_bind]
  rw [h3]
  rfl
theorem jstore {ops : Array Oper} {Q : Exit → Act → World → Prop} {K : Act → World → Prop} {rest : List Oper} {x y : Operand} {t g o i : Nat} {c : List Value} {tt : TypeId} {u v : Value}
    (hx : evF f x = some (.pointer (some ⟨g, o, none⟩))) (hy : evF f y = some v) (hm : m[i]? = some (g, c, Bk.c tt)) (hu : nth c o = some u) (h1 : v.oneCell' = true) (hz : (P.info? t).map (·.size) = some 1) (hg : X.S g ∨ X.w0.heap.size ≤ g)
    (h : J false X P ops Q K rest f (setM m i (setL c o v))) : J false X P ops Q K (⟨none, .store t x y, ty, pos, af, none⟩ :: rest) f m := by
  refine jeff (ι := Unit) (v := fun _ => undef) (m' := fun _ => setM m i (setL c o v)) (fun _ => True) rfl rfl (fun a w st => ⟨(), w.setCell ⟨g, o, none⟩ v, .inr ⟨?_, rfl⟩, st.has.set hm o v, st.evo.set hg o v, trivial⟩) (fun _ _ => h)
  have hcell := st.has.cell hm hu
  have hfro := st.has.frozen hm o
  have hst : (storeVar t ⟨g, o, none⟩ v).run P w = .ok () (w.setCell ⟨g, o, none⟩ v) := by
    cases hq : P.info? t with
    | none => simp [hq] at hz
    | some inf =>
      have hs : inf.size = 1 := by simpa [hq] using hz
      have hcs : v.cells = #[v] := by cases v <;> first | rfl | (simp [Value.oneCell'] at h1; done)
      simp [storeVar, sizeOf, typeInfo, hq, hs, hcs, storeCells, Addr.add, run_store P w _ v _ h1, hcell, hfro]
  simp [execOp, st.agr.eval hx, st.agr.eval hy, Instr.storeAt, Instr.sureAddr, hst]
theorem setRow_evo {S : Nat → Prop} {w0 w : World} (h : Evo S w0 w) {g : Nat} (hg : S g ∨ w0.heap.size ≤ g) (c : Array Value) : Evo S w0 (w.setRow g c) := by
  refine ⟨h.os, h.tape, h.output, by unfold World.setRow; simpa using h.size, fun k hk hs => ?_⟩
  unfold World.setRow
  simp only [Array.getElem?_modify]
  rw [if_neg (by rintro rfl; rcases hg with hg | hg; exact hs hg; omega)]
  exact h.block k hk hs
theorem setRow_has {w : World} (h : Has m w) {i g : Nat} {c c' : List Value} {t : TypeId} (hi : m[i]? = some (g, c, Bk.c t)) : Has (setM m i c') (w.setRow g c'.toArray) := by
  refine ⟨by rw [setM_fst]; exact h.ne, fun x hx => ?_⟩
  rcases setM_mem hi h.ne x hx with rfl | ⟨hx, hne⟩
  · show _ = _
    unfold World.setRow
    simp only [Array.getElem?_modify, if_true]
    rw [h.at hi]; rfl
  · exact (h.blk x hx).eq (by unfold World.setRow; simp only [Array.getElem?_modify]; rw [if_neg (Ne.symm hne)])
theorem jstores {ops : Array Oper} {Q : Exit → Act → World → Prop} {K : Act → World → Prop} {rest : List Oper} {x y : Operand} {t g i : Nat} {c c' : List Value} {tt : TypeId}
    (hx : evF f x = some (.pointer (some ⟨g, 0, none⟩))) (hy : evF f y = some (.agg c'.toArray)) (hm : m[i]? = some (g, c, Bk.c tt)) (hl : c.length = c'.length) (h1 : c'.all (·.oneCell') = true) (hz : (P.info? t).map (·.size) = some c'.length) (hg : X.S g ∨ X.w0.heap.size ≤ g)
    (h : J false X P ops Q K rest f (setM m i c')) : J false X P ops Q K (⟨none, .store t x y, ty, pos, af, none⟩ :: rest) f m := by
  refine jeff (ι := Unit) (v := fun _ => undef) (m' := fun _ => setM m i c') (fun _ => True) rfl rfl (fun a w st => ⟨(), w.setRow g c'.toArray, .inr ⟨?_, rfl⟩, setRow_has st.has hm, setRow_evo st.evo hg _, trivial⟩) (fun _ _ => h)
  simp [execOp, st.agr.eval hx, st.agr.eval hy, Instr.storeAt, Instr.sureAddr, run_storeVar_row w g tt t c.toArray c'.toArray (st.has.at hm) (by simpa using hz) (by simpa using hl) (by simpa using h1)]
theorem jalloc {ops : Array Oper} {Q : Exit → Act → World → Prop} {K : Act → World → Prop} {rest : List Oper} {t dd : Nat} {z : Value} (hz : (P.info? t).bind (·.zero) = some z) (hd : Nat.blt dd X.n = true)
    (h : ∀ g, X.w0.heap.size ≤ g → J false X P ops Q K rest ((dd, .pointer (some ⟨g, 0, none⟩)) :: f) ((g, z.cells.toList, t) :: m)) : J false X P ops Q K (⟨some dd, .alloc t, ty, pos, af, none⟩ :: rest) f m := by
  refine jeff (ι := Nat) (v := fun g => .pointer (some ⟨g, 0, none⟩)) (m' := fun g => (g, z.cells.toList, t) :: m) (fun g => X.w0.heap.size ≤ g) rfl hd (fun a w st => ⟨w.heap.size, w.alloc (.cells z.cells t), .inl ?_, by have := st.has.push z.cells.toList t; simpa using this, st.evo.push _, st.evo.size⟩) (fun g hg => h g hg)
  cases hq : P.info? t with
  | none => simp [hq] at hz
  | some inf =>
    have hs : inf.zero = some z := by simpa [hq] using hz
    simp [execOp, Instr.alloc, zeroValue, typeInfo, hq, hs, newVar, newRow, run_newObj]
end
def args0 : Nat → List Value → Fr
  | _, [] => []
  | i, v :: r => (i, v) :: args0 (i + 1) r
theorem look_args0 (vs : List Value) : ∀ (i j : Nat) (v : Value), look (args0 i vs) j = some v → i ≤ j ∧ vs[j - i]? = some v := by
  induction vs with
  | nil => intro i j v h; cases h
  | cons u r ih =>
    intro i j v h
    simp only [args0, look, cond_eq_ite, Nat.beq_eq] at h
    by_cases e : i = j
    · rw [if_pos e] at h; subst e; simpa using h
    · rw [if_neg e] at h
      have := ih (i + 1) j v h
      refine ⟨by omega, ?_⟩
      rw [show j - i = (j - (i + 1)) + 1 by omega]
      exact this.2
theorem enter {P : Program} {k : Nat} {fn : Func} {c : Code} {vs : List Value} {w : World} {R : Ending → World → Prop} (S : Nat → Prop) (n : Nat) (m : Mem) (hf : P.funcs[k]? = some fn) (hb : fn.body = some c) (hn : fn.ntmps = n) (hl : Nat.ble vs.length n = true) (hm : Has m w)
    (h : PJ ⟨n, [], S, w⟩ (c.wp P (bodyPost P fn R)) (args0 0 vs) m) : Calls P k vs.toArray w R := by
  refine calls_of_wp hf hb (h.out _ _ ⟨⟨?_, rfl, fun j v hj => ?_⟩, hm, Evo.refl _ _⟩)
  · have := Nat.le_of_ble_eq_true hl
    simp [hn]; omega
  · have h1 := look_args0 vs 0 j v hj
    have h2 : vs[j]? = some v := by simpa using h1.2
    have h3 : j < vs.length := by
      rcases Nat.lt_or_ge j vs.length with h | h
      · exact h
      · rw [List.getElem?_eq_none h] at h2; cases h2
    have := Nat.le_of_ble_eq_true hl
    refine ⟨by dsimp; omega, ?_⟩
    simp only [Array.getD_eq_getD_getElem?]
    rw [Array.getElem?_append_left (by simpa using h3)]
    simp [h2]
theorem ret0 {P : Program} {fn : Func} {X : Cx} {R : Ending → World → Prop} {f : Fr} {m : Mem} (hD : X.D = []) (hr : fn.results = #[]) (h : ∀ w, Cl X m w → R (.returned (.tuple #[])) w) : PJ X (bodyPost P fn R .ret) f m := .of fun a w s =>
  bodyPost_ret (results_none hr _ _ _) (s.agr.defers.trans hD) (h w ⟨s.has, s.evo⟩)
theorem end0 {P : Program} {fn : Func} {X : Cx} {R : Ending → World → Prop} {f : Fr} {m : Mem} (hD : X.D = []) (hr : fn.results = #[]) (h : ∀ w, Cl X m w → R (.returned (.tuple #[])) w) : PJ X (bodyPost P fn R .normal) f m := .of fun a w s =>
  bodyPost_end (results_none hr _ _ _) (s.agr.defers.trans hD) (h w ⟨s.has, s.evo⟩)
theorem ret1 {P : Program} {fn : Func} {X : Cx} {R : Ending → World → Prop} {f : Fr} {m : Mem} {t : Nat} {v : Value} (hD : X.D = []) (hr : fn.results = #[.tmp t]) (hv : look f t = some v) (h : ∀ w, Cl X m w → R (.returned v) w) : PJ X (bodyPost P fn R .ret) f m := .of fun a w s =>
  bodyPost_ret (results_tmp hr _ _ _) (s.agr.defers.trans hD) (by rw [(s.agr.slot t v hv).2]; exact h w ⟨s.has, s.evo⟩)
theorem ret2 {P : Program} {fn : Func} {X : Cx} {R : Ending → World → Prop} {f : Fr} {m : Mem} {t u : Nat} {v v' : Value} (hD : X.D = []) (hr : fn.results = #[.tmp t, .tmp u]) (hv : look f t = some v) (hv' : look f u = some v') (h : ∀ w, Cl X m w → R (.returned (.tuple #[v, v'])) w) : PJ X (bodyPost P fn R .ret) f m := .of fun a w s =>
  bodyPost_ret (results_tmp2 hr _ _ _) (s.agr.defers.trans hD) (by rw [(s.agr.slot t v hv).2, (s.agr.slot u v' hv').2]; exact h w ⟨s.has, s.evo⟩)
end Go.Rx
namespace Go.Rx
open Go.RowKit
section
variable {P : Program} {ops : Array Oper} {md : Region.Mode} {C : World → Prop}
def Head (P : Program) (md : Region.Mode) (ops : Array Oper) (C : World → Prop) (n : Nat) (L : Array Bool → Act → Prop) : Nat → Array Bool → Act → Prop
  | 0, listed, a => L listed a
  | k + 1, listed, a => Region.ready md ops listed ≠ [] ∧ ∀ i ∈ Region.ready md ops listed, i < n ∧ qOp P ops C i (Head P md ops C n L k (listed.setIfInBounds i true)) a
theorem any_of_head {n g : Nat} {L : Array Bool → Act → Prop} {Q : Exit → Act → World → Prop} (hL : ∀ listed a w, C w → L listed a → wpAny P md ops Q g listed a w) (k : Nat) :
    ∀ (listed : Array Bool) (a : Act) (w : World), C w → Head P md ops C n L k listed a → wpAny P md ops Q (k + g) listed a w := by
  induction k with
  | zero => intro listed a w hC h; rw [Nat.zero_add]; exact hL _ _ _ hC h
  | succ k ih =>
    intro listed a w hC h
    rw [Nat.add_right_comm]
    exact ⟨fun e => absurd e h.1, fun i hi => wpOp_of_qOp hC (fun a' w' hC' hh => ih _ a' w' hC' hh) (h.2 i hi).2⟩
theorem head_first {n i : Nat} {oi : Oper} {v : Value} {L : Array Bool → Act → Prop} (hi : ops[i]? = some oi) (hsel : ∀ (j : Nat) (o : Oper) cs b, ops[j]? = some o → o.op ≠ .select cs b)
    (hs : Region.sinkB md ops n = true) (hc : Region.chainB md ops n = true) (hn : n < ops.size) (hin : i < n)
    (hdone : ∀ listed a, L listed a → ∀ j ∈ Region.ready md ops listed, n ≤ j) (k : Nat) :
    ∀ (listed : Array Bool) (a : Act), HeadInv md ops n listed →
      (∀ j oj, ops[j]? = some oj → j ≠ i → listed.getD j true = false → (∀ e ∈ oj.after, Region.binds md e = true → e.on ≠ i) → oi.apart ops oj = true) →
      i ∈ Region.ready md ops listed → YieldsIn P ops C oi v a →
      Head P md ops C n L k (listed.setIfInBounds i true) (a.put oi.dst v) → Head P md ops C n L (k + 1) listed a := by
  induction k with
  | zero =>
    intro listed a inv _ hr hy H
    refine ⟨List.ne_nil_of_mem hr, fun j hj => ?_⟩
    have hjn : j < n := Nat.lt_of_not_le fun hle => tail_waits hs hc hn inv _ i rfl hin (mem_ready.1 hr).1 j hle hj
    refine ⟨hjn, ?_⟩
    by_cases e : j = i
    · subst e; exact hy.qOp hi H
    · exact absurd (hdone _ _ H j (ready_mono hj e)) (by omega)
  | succ k ih =>
    intro listed a inv hfree hr hy H
    have hun := (mem_ready.1 hr).1
    refine ⟨List.ne_nil_of_mem hr, fun j hj => ?_⟩
    have hjn : j < n := Nat.lt_of_not_le fun hle => tail_waits hs hc hn inv _ i rfl hin hun j hle hj
    refine ⟨hjn, ?_⟩
    by_cases e : j = i
    · subst e; exact hy.qOp hi H
    · obtain ⟨hjun, oj, hoj, hall⟩ := mem_ready.1 hj
      have h1 := (H.2 j (ready_mono hj e)).2
      have h2 := qOp_put hoj (hfree j oj hoj e hjun fun ed he hb heq => by
        have := hall ed he hb
        rw [heq, getD_both hun] at this
        cases this) (fun cs b => hsel i oi cs b hi) (fun cs b => hsel j oj cs b hoj) hy h1
      refine qOp_mono (fun a' h3 => ih (listed.setIfInBounds j true) a' (inv.set hj hjn) (fun q oq hq hqi hun' hno => hfree q oq hq hqi ?_ hno) (ready_mono hr (Ne.symm e)) h3.1 ?_) h2
      · by_cases hjq : j = q
        · subst hjq; exact hjun
        · rwa [getD_set_ne true hjq] at hun'
      · rw [Array.setIfInBounds_comm _ _ e]; exact h3.2
theorem head_lex {n g : Nat} {Lq : Act → Prop} (hsel : Region.noSelect ops = true) (hs : Region.sinkB md ops n = true) (hc : Region.chainB md ops n = true) (hn : n < ops.size) (l : List Oper) :
    ∀ (k : Nat) (listed : Array Bool) (a : Act), (∀ j, j < l.length → l[j]? = ops[k + j]?) → k + l.length = n → HeadInv md ops n listed →
    Region.lexHead md ops g l.length k listed = true → wpQuiet P ops C Lq l a →
    Head P md ops C n (fun listed' a' => Region.seqB md ops g n listed' = true ∧ Lq a') l.length listed a := by
  induction l with
  | nil =>
    intro k listed a _ hk _ hB h
    obtain rfl : k = n := by simpa using hk
    exact ⟨by simpa [Region.lexHead] using hB, h⟩
  | cons o l ih =>
    intro k listed a hl hk inv hB h
    have h0 : ops[k]? = some o := by simpa using (hl 0 (by simp)).symm
    simp only [List.length_cons, Region.lexHead, Bool.and_eq_true] at hB hk
    have hr : k ∈ Region.ready md ops listed := by simpa using hB.1.1
    obtain ⟨v, hy, hK⟩ := yieldsIn_of_qOp (K := wpQuiet P ops C Lq l) h0 (by unfold qOp; simp only [h0]; exact h)
    exact head_first h0 (Region.noSelect_spec hsel) hs hc hn (by omega) (fun listed' a' hL => seqB_ready hL.1) l.length listed a inv (Region.free_spec h0 hB.1.2) hr hy
      (ih (k + 1) _ _ (fun j hj => by have := hl (j + 1) (by simp; omega); simpa [Nat.add_assoc, Nat.add_comm 1 j] using this) (by omega) (inv.set hr (by omega)) hB.2 hK)
theorem wp_region_quiet_tail {id : Nat} {Q : Exit → Act → World → Prop} {a : Act} {w : World} {l : List Oper} (n : Nat) (hm : P.follows .mixedOrders = true) (hB : Region.lexTailB .any l.toArray n = true) (hC : C { w with drawn := w.drawn + 1 })
    (h : wpQuiet P l.toArray C (fun a' => ∀ w', C w' → wpList P l.toArray Q (l.drop n) a' w') (l.take n) a) : (Code.region id l.toArray true).wp P Q a w := by
  simp only [Region.lexTailB, Bool.and_eq_true, decide_eq_true_eq] at hB
  obtain ⟨⟨⟨⟨hsel, hn⟩, hs⟩, hc⟩, hlex⟩ := hB
  have hnl : n < l.length := by simpa using hn
  have htl : (l.take n).length = n := by simp; omega
  have hdl : (l.drop n).length = l.toArray.size - n := by simp
  have H := head_lex (md := .any) (g := l.toArray.size - n) hsel hs hc hn (l.take n) 0 (Array.replicate l.toArray.size false) a (fun j hj => by
    rw [htl] at hj; simp [hj]) (by simpa using htl)
    ⟨by simp, fun j oj _ hl => (by rw [getD_replicate_false] at hl; cases hl), fun t _ ht => getD_in (by simpa using ht) (getD_replicate_false _ _)⟩ (by rw [htl]; exact hlex) h
  have A := any_of_head (Q := Q) (g := l.toArray.size - n) (fun listed a' w' hC' hL => by
    have := wpAny_of_seq (md := .any) (Q' := Q) (l.drop n) n listed a' w' (fun j => by simp [List.getElem?_drop]) (by rw [hdl]; exact hL.1) (hL.2 w' hC')
    rwa [hdl] at this) _ _ _ _ hC H
  rw [htl, show n + (l.toArray.size - n) = l.toArray.size by omega] at A
  exact wp_region_any hm A
end
theorem rtail {X : Cx} {P : Program} {Q : Exit → Act → World → Prop} {l : List Oper} {f : Fr} {m : Mem} {id : Nat} (n : Nat) (hm : P.follows .mixedOrders = true) (hB : Region.lexTailB .any l.toArray n = true)
    (h : J true X P l.toArray Q (wpList P l.toArray Q (l.drop n)) (l.take n) f m) : PJ X ((Code.region id l.toArray true).wp P Q) f m := .of fun a w s =>
  wp_region_quiet_tail (C := Cl X m) n hm hB ⟨s.has.drawn _, s.evo.drawn _⟩ (h.out a s.agr)
end Go.Rx
namespace Go.Rx
open Go.RowKit
section
variable {P : Program} {X : Cx} {Q : Exit → Act → World → Prop} {f : Fr} {m : Mem}
theorem cloop {c : Code} {ι : Sort _} (F : ι → Fr) (M : ι → Mem) (p : Nat → ι → Prop) (n0 : Nat) (i0 : ι) (h0 : p n0 i0)
    (round : ∀ n i, p n i → ∀ K : Act → World → Prop, (∀ k j, k < n → p k j → PJ X K (F j) (M j)) → PJ X (c.wp P (Exit.then K Q)) (F i) (M i)) : PJ X ((Code.loop c).wp P Q) (F i0) (M i0) := .of fun a w s => by
  refine wp_loop_ghost (fun n a w => ∃ i, p n i ∧ St X (F i) (M i) a w) n0 ⟨i0, h0, s⟩ ?_
  rintro n a w ⟨i, hp, st⟩
  exact (round n i hp _ (fun k j hk hj => .of fun a' w' st' => ⟨k, hk, j, hj, st'⟩)).out a w st
variable {qt : Bool} {ops : Array Oper} {K : Act → World → Prop} {rest : List Oper} {d : Nat} {ty : TypeId} {pos : String} {af : Array Edge} {gd : Option (Nat × Bool)} {x y : Operand} {k : IntKind} {i j : Int} {t t' : TypeId}
theorem jlss (hx : evF f x = some (.int k i)) (hy : evF f y = some (.int k j)) (hw : wantedF ops f ⟨some d, .binOp .lss t x y t', ty, pos, af, gd⟩ = some true) (hd : Nat.blt d X.n = true)
    (h1 : i < j → J qt X P ops Q K rest ((d, .bool true) :: f) m) (h0 : ¬ i < j → J qt X P ops Q K rest ((d, .bool false) :: f) m) : J qt X P ops Q K (⟨some d, .binOp .lss t x y t', ty, pos, af, gd⟩ :: rest) f m := by
  by_cases h : i < j
  · exact jy (ylss hx hy (decide_eq_true h)) hw hd (h1 h)
  · exact jy (ylss hx hy (decide_eq_false h)) hw hd (h0 h)
theorem jleq (hx : evF f x = some (.int k i)) (hy : evF f y = some (.int k j)) (hw : wantedF ops f ⟨some d, .binOp .leq t x y t', ty, pos, af, gd⟩ = some true) (hd : Nat.blt d X.n = true)
    (h1 : i ≤ j → J qt X P ops Q K rest ((d, .bool true) :: f) m) (h0 : ¬ i ≤ j → J qt X P ops Q K rest ((d, .bool false) :: f) m) : J qt X P ops Q K (⟨some d, .binOp .leq t x y t', ty, pos, af, gd⟩ :: rest) f m := by
  by_cases h : i ≤ j
  · exact jy (yleq hx hy (decide_eq_true h)) hw hd (h1 h)
  · exact jy (yleq hx hy (decide_eq_false h)) hw hd (h0 h)
theorem jgtr (hx : evF f x = some (.int k i)) (hy : evF f y = some (.int k j)) (hw : wantedF ops f ⟨some d, .binOp .gtr t x y t', ty, pos, af, gd⟩ = some true) (hd : Nat.blt d X.n = true)
    (h1 : j < i → J qt X P ops Q K rest ((d, .bool true) :: f) m) (h0 : ¬ j < i → J qt X P ops Q K rest ((d, .bool false) :: f) m) : J qt X P ops Q K (⟨some d, .binOp .gtr t x y t', ty, pos, af, gd⟩ :: rest) f m := by
  by_cases h : j < i
  · exact jy (ygtr hx hy (decide_eq_true h)) hw hd (h1 h)
  · exact jy (ygtr hx hy (decide_eq_false h)) hw hd (h0 h)
theorem jgeq (hx : evF f x = some (.int k i)) (hy : evF f y = some (.int k j)) (hw : wantedF ops f ⟨some d, .binOp .geq t x y t', ty, pos, af, gd⟩ = some true) (hd : Nat.blt d X.n = true)
    (h1 : j ≤ i → J qt X P ops Q K rest ((d, .bool true) :: f) m) (h0 : ¬ j ≤ i → J qt X P ops Q K rest ((d, .bool false) :: f) m) : J qt X P ops Q K (⟨some d, .binOp .geq t x y t', ty, pos, af, gd⟩ :: rest) f m := by
  by_cases h : j ≤ i
  · exact jy (ygeq hx hy (decide_eq_true h)) hw hd (h1 h)
  · exact jy (ygeq hx hy (decide_eq_false h)) hw hd (h0 h)
theorem jeql (hx : evF f x = some (.int k i)) (hy : evF f y = some (.int k j)) (hw : wantedF ops f ⟨some d, .binOp .eql t x y t', ty, pos, af, gd⟩ = some true) (hd : Nat.blt d X.n = true)
    (h1 : i = j → J qt X P ops Q K rest ((d, .bool true) :: f) m) (h0 : ¬ i = j → J qt X P ops Q K rest ((d, .bool false) :: f) m) : J qt X P ops Q K (⟨some d, .binOp .eql t x y t', ty, pos, af, gd⟩ :: rest) f m := by
  by_cases h : i = j
  · exact jy (yeql hx hy (decide_eq_true h)) hw hd (h1 h)
  · exact jy (yeql hx hy (decide_eq_false h)) hw hd (h0 h)
theorem jneq (hx : evF f x = some (.int k i)) (hy : evF f y = some (.int k j)) (hw : wantedF ops f ⟨some d, .binOp .neq t x y t', ty, pos, af, gd⟩ = some true) (hd : Nat.blt d X.n = true)
    (h1 : ¬ i = j → J qt X P ops Q K rest ((d, .bool true) :: f) m) (h0 : i = j → J qt X P ops Q K rest ((d, .bool false) :: f) m) : J qt X P ops Q K (⟨some d, .binOp .neq t x y t', ty, pos, af, gd⟩ :: rest) f m := by
  by_cases h : i = j
  · exact jy (yneq hx hy (decide_eq_false (by simpa using h))) hw hd (h0 h)
  · exact jy (yneq hx hy (decide_eq_true h)) hw hd (h1 h)
theorem jcall0 {kf : Nat} {as0 : List Operand} {tys : Array TypeId} {vs : List Value} {v : Value} (m' : Mem)
    (hb : bodyB P kf = true) (hw : wantedF ops f ⟨some d, .call ⟨.value (.func kf), as0.toArray, tys⟩, ty, pos, af, gd⟩ = some true) (hd : Nat.blt d X.n = true) (hv : callF f as0 = some vs)
    (hc : ∀ w, Cl X m w → Calls P kf vs.toArray w fun e w' => e = .returned v ∧ Cl X m' w')
    (h : J false X P ops Q K rest ((d, v) :: f) m') : J false X P ops Q K (⟨some d, .call ⟨.value (.func kf), as0.toArray, tys⟩, ty, pos, af, gd⟩ :: rest) f m :=
  jcall (ι := Unit) (v := fun _ => v) (m' := fun _ => m') (fun _ => True) hb hw hd hv (fun w hw' => (hc w hw').mono fun e w' h => ⟨(), h.1, h.2, trivial⟩) (fun _ _ => h)
theorem csplit' {c : Operand} {u v : Code} {b : Bool} (hc : evF f c = some (.bool b)) (ht : b = true → PJ X (u.wp P Q) f m) (hf : ¬ b = true → PJ X (v.wp P Q) f m) : PJ X ((Code.cond c u v).wp P Q) f m :=
  csplit hc ht (fun h => hf (by rw [h]; exact Bool.false_ne_true))
end
def Sub (f : Fr) : Fr → Prop
  | [] => True
  | (i, v) :: r => look f i = some v ∧ Sub f r
theorem Sub.all {f : Fr} : ∀ {g : Fr}, Sub f g → ∀ x ∈ g, look f x.1 = some x.2
  | [], _, x, hx => by cases hx
  | (i, v) :: r, h, x, hx => by
    simp only [List.mem_cons] at hx
    rcases hx with rfl | hx
    · exact h.1
    · exact Sub.all h.2 x hx
theorem fin {X : Cx} {q : Act → World → Prop} {f f' : Fr} {m m' : Mem} (h : PJ X q f' m') (hs : Sub f f') (hm : m = m') : PJ X q f m := less hs.all (by rw [hm]; exact List.Sublist.refl _) h
theorem Cl.below {X : Cx} {m : Mem} {w w' : World} (h : Cl X m w) (hb : Below w.heap.size w w') : Cl X m w' := ⟨h.1.below hb, h.2.trans (Evo.of_below hb)⟩
theorem quietC {P : Program} {X : Cx} {m : Mem} {k : Nat} {as0 : Array Value} {v : Value} (h : ∀ w, Cl X m w → Calls P k as0 w fun e w' => e = .returned v ∧ Below w.heap.size w w') : ∀ w, Cl X m w → Calls P k as0 w fun e w' => e = .returned v ∧ Cl X m w' :=
  fun w hw => (h w hw).mono fun e w' ⟨he, hb⟩ => ⟨he, hw.below hb⟩
theorem i64_in {n : Int} (h0 : -9223372036854775808 ≤ n) (h1 : n ≤ 9223372036854775807) : IntKind.i64.wrap n = n := IntWalk.i64_in _ (by omega)
def sndN : Nat → Code → Code
  | n, .block _ c => sndN n c
  | n, .scope c => sndN n c
  | n + 1, .seq _ b => sndN n b
  | _, c => c
end Go.Rx
namespace Go.Rx
open Go.RowKit
section
variable {X : Cx} {P : Program} {f : Fr} {m : Mem} {d : Option Tmp} {ty : TypeId} {pos : String} {af : Array Edge} {gd : Option (Nat × Bool)}
def szB (P : Program) (e n : Nat) : Bool := match P.info? e with
  | some i => Nat.beq i.size n
  | none => false
theorem szB_eq {e n : Nat} (h : szB P e n = true) : ∃ i, P.info? e = some i ∧ i.size = n := by
  unfold szB at h
  split at h
  · rename_i i hi; exact ⟨i, hi, Nat.eq_of_beq_eq_true h⟩
  · cases h
theorem yat {x y : Operand} {p p' : Addr} {n c z : Nat} {k : IntKind} {i : Int} {t e : TypeId} (hx : evF f x = some (.slice (some p) n c)) (hy : evF f y = some (.int k i)) (ht : P.underlying t = some (.slice e)) (hz : szB P e z = true) (h0 : 0 ≤ i) (h1 : i < n) (hp : p.add (i.toNat * z) = p') :
    Yl X P f m ⟨d, .indexAddr t x y, ty, pos, af, gd⟩ (.pointer (some p')) := .of fun a w st => by
  subst hp
  obtain ⟨inf, hi, rfl⟩ := szB_eq hz
  simp [execOp, st.agr.eval hx, st.agr.eval hy, Instr.indexAt, run_underlying ht, asIntOf, h0, h1, sizeOf, typeInfo, hi]
theorem yloadsw {x : Operand} {t : Nat} {p : Addr} {c : List Value} (hx : evF f x = some (.pointer (some p))) (hv : ∀ j v, c[j]? = some v → X.w0.cell? (p.add j) = some v) (hs : ¬ X.S p.block) (ht : aggB P t c.length = true) :
    Yl X P f m ⟨d, .load t x, ty, pos, af, gd⟩ (.agg c.toArray) := .of fun a w st => by
  obtain ⟨h1, fs, h2⟩ := aggB_size ht
  have hl : (loadCells p c.length).run P w = .ok c.toArray w := run_loadCells_list (P := P) w p c fun j v hj => by
    have hc := hv j v hj
    have hb : (p.add j).block = p.block := by unfold Addr.add; split <;> rfl
    have hlt : p.block < X.w0.heap.size := by
      rcases Nat.lt_or_ge p.block X.w0.heap.size with h | h
      · exact h
      · simp [World.cell?, hb, Array.getElem?_eq_none h] at hc
    unfold World.cell? at hc ⊢
    rw [hb] at hc ⊢
    rw [st.evo.block _ hlt hs]
    exact hc
  have hagg : (isAgg t).run P w = .ok true w := by
    unfold isAgg
    rw [Sem.run_bind, run_underlying h2 w]
    rfl
  cases hq : P.info? t with
  | none => simp [hq] at h1
  | some inf =>
    have hsz : inf.size = c.length := by simpa [hq] using h1
    simp [execOp, st.agr.eval hx, Instr.loadAt, Instr.sureAddr, loadVar, hagg, sizeOf, typeInfo, hq, hsz, hl]
variable {ops : Array Oper} {Q : Exit → Act → World → Prop} {K : Act → World → Prop} {rest : List Oper}
theorem yslice0 {x hi : Operand} {s r : ByteArray} {k' : IntKind} {j : Int} {t : TypeId} (hx : evF f x = some (.string s)) (hh : evF f hi = some (.int k' j)) (ht : P.underlying t = some .string)
    (h0 : 0 ≤ j) (h2 : j ≤ s.size) (hr : s.extract 0 j.toNat = r) :
    Yl X P f m ⟨d, .slice t x none (some hi) none, ty, pos, af, gd⟩ (.string r) := .of fun a w st => by
  subst hr
  have hj : 0 ≤ j ∧ j ≤ (s.size : Int) := ⟨h0, h2⟩
  simp [execOp, st.agr.eval hx, st.agr.eval hh, run_sliceAt_string w t _ _ _ _ ht, Instr.slice, Instr.sliceBounds, Instr.sliceBound, asIntOf, run_underlying ht, hj]
theorem yextractL {x : Operand} {i : Nat} {vs : List Value} {v : Value} (hx : evF f x = some (.tuple vs.toArray)) (hv : nth vs i = some v) : Yl X P f m ⟨d, .extract x i, ty, pos, af, gd⟩ v := .of fun a w s => by
  rw [nth_eq] at hv
  simp [execOp, s.agr.eval hx, Instr.extract, hv]
theorem jcases {qt : Bool} {l : List Oper} {dd : Nat} {b : Bool} (ht : b = true → J qt X P ops Q K l ((dd, .bool true) :: f) m) (hf : b = false → J qt X P ops Q K l ((dd, .bool false) :: f) m) : J qt X P ops Q K l ((dd, .bool b) :: f) m := by
  cases b
  · exact hf rfl
  · exact ht rfl
inductive Row where
  | nil
  | at (g cap : Nat) (rest : List Value)
def Row.val : Row → Nat → Value
  | .nil, _ => .slice none 0 0
  | .at g cap _, n => .slice (some ⟨g, 0, none⟩) n cap
def Row.mem : Row → List Value → TypeId → Mem
  | .nil, _, _ => []
  | .at g _ r, xs, e => [(g, xs ++ r, e)]
def Row.ok (B size : Nat) : Row → Nat → List Value → Prop
  | .nil, n, xs => n = 0 ∧ xs = []
  | .at g cap r, n, xs => B ≤ g ∧ xs.length = n * size ∧ n ≤ cap ∧ cap ≤ maxLen ∧ xs.length + r.length = cap * size
theorem Row.owns {B size : Nat} {r : Row} {n : Nat} {xs : List Value} {e : TypeId} {m0 : Mem} {w : World} (hr : r.ok B size n xs) (h : Has (m0 ++ r.mem xs e) w) : w.ownsRow B e size (r.val n) n xs := by
  cases r with
  | nil => obtain ⟨rfl, rfl⟩ := hr; exact World.ownsRow_nil _ _ _ _
  | «at» g cap r =>
    obtain ⟨h1, h2, h3, h4, h5⟩ := hr
    refine ⟨h2, .inr ⟨g, cap, (xs ++ r).toArray, rfl, h1, h.blk (g, xs ++ r, e) (by simp [Row.mem]), h3, h4, by simpa using h5, by simp [← h2]⟩⟩
theorem Row.of_owns {B size : Nat} {v : Value} {n : Nat} {xs : List Value} {e : TypeId} {w : World} (h : w.ownsRow B e size v n xs) : ∃ r : Row, v = r.val n ∧ r.ok B size n xs ∧ ∀ x ∈ r.mem xs e, BlkAt w x.1 x.2.1 x.2.2 := by
  obtain ⟨h1, ⟨rfl, rfl⟩ | ⟨g, cap, cur, rfl, h2, h3, h4, h5, h6, h7⟩⟩ := h
  · exact ⟨.nil, rfl, ⟨rfl, by simpa using h1⟩, by simp [Row.mem]⟩
  · have hc : xs ++ cur.toList.drop (n * size) = cur.toList := by rw [← h7]; exact List.take_append_drop _ _
    refine ⟨.at g cap (cur.toList.drop (n * size)), rfl, ⟨h2, h1, h4, h5, ?_⟩, fun x hx => ?_⟩
    · have := congrArg List.length hc
      simp only [List.length_append, Array.length_toList] at this
      omega
    · simp only [Row.mem, List.mem_singleton] at hx
      subst hx
      show _ = _
      simp [hc, h3]
def growB (P : Program) (t e size bytes : Nat) : Bool := match P.underlying t, P.info? e with
  | some (.slice e'), some i => Nat.beq e' e && Nat.beq i.size size && Nat.beq i.bytes bytes && (match i.zero with | some z => Nat.beq z.cells.size size | none => false)
  | _, _ => false
theorem growB_eq {t e size bytes : Nat} (h : growB P t e size bytes = true) : P.underlying t = some (.slice e) ∧ ∃ i z, P.info? e = some i ∧ i.zero = some z ∧ i.size = size ∧ i.bytes = bytes ∧ z.cells.size = size := by
  unfold growB at h
  split at h
  · rename_i e' i hu hi
    simp only [Bool.and_eq_true] at h
    obtain ⟨⟨⟨h1, h2⟩, h3⟩, h4⟩ := h
    obtain rfl := Nat.eq_of_beq_eq_true h1
    split at h4
    · rename_i z hz
      exact ⟨hu, i, z, hi, hz, Nat.eq_of_beq_eq_true h2, Nat.eq_of_beq_eq_true h3, Nat.eq_of_beq_eq_true h4⟩
    · cases h4
  · cases h
theorem foldl_set (l : List Value) : ∀ (k : Nat) (cs : Array Value), cs.size = k + l.length → (l.zipIdx k).foldl (fun cs (q : Value × Nat) => cs.setIfInBounds q.2 q.1) cs = (cs.toList.take k ++ l).toArray := by
  induction l with
  | nil => intro k cs h; simp at h ⊢; rw [List.take_of_length_le (by simp; omega)]
  | cons v r ih =>
    intro k cs h
    simp only [List.length_cons] at h
    simp only [List.zipIdx_cons, List.foldl_cons]
    rw [ih (k + 1) _ (by simp; omega)]
    congr 1
    simp only [Array.toList_setIfInBounds]
    rw [List.take_succ_eq_append_getElem (by simp; omega), List.take_set]
    simp
    rw [List.set_eq_of_length_le (by simp; omega)]
theorem jlit1 {dd : Nat} {x : Operand} {t e size bytes : Nat} {c : List Value} {v : Value} (hx : evF f x = some v) (hc : v.cells = c.toArray) (hl : c.length = size) (hg : growB P t e size bytes = true) (h0 : Nat.blt 0 size = true) (h1 : Nat.ble size 1000 = true) (hd : Nat.blt dd X.n = true)
    (h : ∀ g, X.w0.heap.size ≤ g → J false X P ops Q K rest ((dd, .slice (some ⟨g, 0, none⟩) 1 1) :: f) ((g, c, e) :: m)) : J false X P ops Q K (⟨some dd, .buildSlice t 1 #[(0, x)], ty, pos, af, none⟩ :: rest) f m := by
  refine jeff (ι := Nat) (v := fun g => .slice (some ⟨g, 0, none⟩) 1 1) (m' := fun g => (g, c, e) :: m) (fun g => X.w0.heap.size ≤ g) rfl hd (fun a w st => ⟨w.heap.size, w.alloc (.cells c.toArray e), .inl ?_, st.has.push _ _, st.evo.push _, st.evo.size⟩) (fun g hg => h g hg)
  obtain ⟨hu, inf, z, q1, q2, q3, q4, q5⟩ := growB_eq hg
  have h0' : 0 < size := by simpa using h0
  have h1' := Nat.le_of_ble_eq_true h1
  have hfill : Instr.fill (fun i => some (i * size, size)) ((Array.range (1 * size)).map (z.cells[· % z.cells.size]!)) [(0, v)] = some c.toArray := by
    have hv : v.cells.size = size := by rw [hc]; simpa using hl
    simp only [Instr.fill]
    rw [if_neg (by simp [hv])]
    congr 1
    simp only [Nat.zero_mul, Nat.zero_add]
    rw [hc, ← Array.foldl_toList, Array.toList_zipIdx]
    rw [foldl_set c 0 _ (by simp [hl])]
    simp
  simp only [execOp, Instr.buildSlice, List.map_toArray, List.map_cons, List.map_nil, st.agr.eval hx, Sem.run_bind, run_underlying hu, Result.andThen_ok, sizeOf, typeInfo, program, Sem.run, q1, Sem.run_pure, q3]
  rw [if_neg (by omega), if_neg (by omega)]
  simp only [zeroValue, typeInfo, program, Sem.run_bind, Sem.run, q1, q2, Sem.run_pure, Result.andThen_ok, hfill]
  simp [newRow, run_newObj]
end
end Go.Rx
namespace Go.Rx
open Go.RowKit
section
variable {X : Cx} {P : Program} {f : Fr} {m : Mem} {d : Option Tmp} {ty : TypeId} {pos : String} {af : Array Edge} {gd : Option (Nat × Bool)}
variable {ops : Array Oper} {Q : Exit → Act → World → Prop} {K : Act → World → Prop} {rest : List Oper}
theorem yatb {x y : Operand} {g o o' n c z : Nat} {k : IntKind} {i : Int} {t e : TypeId} (hx : evF f x = some (.slice (some ⟨g, o, none⟩) n c)) (hy : evF f y = some (.int k i)) (ht : P.underlying t = some (.slice e)) (hz : szB P e z = true) (h0 : 0 ≤ i) (h1 : i < n) (ho : o + i.toNat * z = o') :
    Yl X P f m ⟨d, .indexAddr t x y, ty, pos, af, gd⟩ (.pointer (some ⟨g, o', none⟩)) := by
  subst ho
  have : (⟨g, o, none⟩ : Addr).add (i.toNat * z) = ⟨g, o + i.toNat * z, none⟩ := by unfold Addr.add; split <;> simp_all
  exact yat hx hy ht hz h0 h1 this
theorem made_list (zs : List Value) (h : 0 < zs.length) (n : Nat) : (madeCells zs.toArray (n * zs.length)).toList = (List.replicate n zs).flatten := by
  apply List.ext_getElem?
  intro j
  by_cases hj : j < n * zs.length
  · have h1 : (madeCells zs.toArray (n * zs.length)).toList[j]? = zs[j % zs.length]? := by
      unfold madeCells
      have hm : j % zs.length < zs.length := Nat.mod_lt _ h
      simp [hj, hm]
    rw [h1]
    clear h1
    induction n generalizing j with
    | zero => omega
    | succ n ih =>
      rw [List.replicate_succ, List.flatten_cons]
      by_cases hlt : j < zs.length
      · rw [List.getElem?_append_left hlt, Nat.mod_eq_of_lt hlt]
      · rw [List.getElem?_append_right (by omega), ← ih (j - zs.length) (by rw [Nat.add_mul] at hj; omega), Nat.mod_eq_sub_mod (by omega)]
  · rw [List.getElem?_eq_none (by unfold madeCells; simp; omega), List.getElem?_eq_none (by simp; omega)]
end
end Go.Rx
namespace Go.Rx
open Go.RowKit
section
variable {X : Cx} {P : Program} {f : Fr} {m : Mem} {ty : TypeId} {pos : String} {af : Array Edge} {gd : Option (Nat × Bool)}
variable {qt : Bool} {ops : Array Oper} {Q : Exit → Act → World → Prop} {K : Act → World → Prop} {rest : List Oper}
theorem eqGS (op : BinOp) (t : TypeId) (x y : Operand) (a b : ByteArray) : eqGuard op t x y (.string a) (.string b) = pure () := by cases op <;> rfl
theorem str_eq (a b : ByteArray) : (a.toList == b.toList) = decide (a = b) := by
  by_cases h : a = b
  · subst h; simp
  · have : ¬ a.toList = b.toList := fun e => h (by
      apply ByteArray.ext
      apply Array.toList_inj.1
      rw [← ByteArray.toList_eq, ← ByteArray.toList_eq, e])
    simp [h, this]
theorem ysadd {d : Option Tmp} {x y : Operand} {a b c : ByteArray} {t t' : TypeId} (hx : evF f x = some (.string a)) (hy : evF f y = some (.string b)) (hl : a.size + b.size ≤ 9223372036854775807) (hc : a ++ b = c) : Yl X P f m ⟨d, .binOp .add t x y t', ty, pos, af, gd⟩ (.string c) := .of fun ac w s => by
  subst hc
  have h1 : ¬ (((a.size + b.size : Nat) : Int) > IntKind.i64.max) := by
    have : IntKind.i64.max = 9223372036854775807 := by rfl
    rw [this]; omega
  simp only [execOp, s.agr.eval hx, s.agr.eval hy, binOp, eqGS, Op.stringOp, if_neg h1]
  rfl
theorem yseql {d : Option Tmp} {x y : Operand} {a b : ByteArray} {c : Bool} {t t' : TypeId} (hx : evF f x = some (.string a)) (hy : evF f y = some (.string b)) (hc : decide (a = b) = c) : Yl X P f m ⟨d, .binOp .eql t x y t', ty, pos, af, gd⟩ (.bool c) := .of fun ac w s => by
  subst hc
  simp only [execOp, s.agr.eval hx, s.agr.eval hy, binOp, eqGS, Op.stringOp, str_eq]
  rfl
theorem ysneq {d : Option Tmp} {x y : Operand} {a b : ByteArray} {c : Bool} {t t' : TypeId} (hx : evF f x = some (.string a)) (hy : evF f y = some (.string b)) (hc : decide (a ≠ b) = c) : Yl X P f m ⟨d, .binOp .neq t x y t', ty, pos, af, gd⟩ (.bool c) := .of fun ac w s => by
  subst hc
  simp only [execOp, s.agr.eval hx, s.agr.eval hy, binOp, eqGS, Op.stringOp, str_eq]
  simp
theorem jsneq {d : Nat} {x y : Operand} {a b : ByteArray} {t t' : TypeId} (hx : evF f x = some (.string a)) (hy : evF f y = some (.string b)) (hw : wantedF ops f ⟨some d, .binOp .neq t x y t', ty, pos, af, gd⟩ = some true) (hd : Nat.blt d X.n = true)
    (h1 : ¬ a = b → J qt X P ops Q K rest ((d, .bool true) :: f) m) (h0 : a = b → J qt X P ops Q K rest ((d, .bool false) :: f) m) : J qt X P ops Q K (⟨some d, .binOp .neq t x y t', ty, pos, af, gd⟩ :: rest) f m := by
  by_cases h : a = b
  · exact jy (ysneq hx hy (decide_eq_false (by simpa using h))) hw hd (h0 h)
  · exact jy (ysneq hx hy (decide_eq_true h)) hw hd (h1 h)
end
end Go.Rx
namespace Go.Rx
open Go.RowKit
section
variable {X : Cx} {P : Program} {f : Fr} {m : Mem} {ty : TypeId} {pos : String} {af : Array Edge} {gd : Option (Nat × Bool)} {d : Option Tmp}
theorem yloadp {x : Operand} {t g o i n : Nat} {c r : List Value} {tt : TypeId} (hx : evF f x = some (.pointer (some ⟨g, o, none⟩))) (hm : m[i]? = some (g, c, Bk.c tt)) (ht : aggB P t n = true) (hl : Nat.ble (o + n) c.length = true) (hr : (c.drop o).take n = r) :
    Yl X P f m ⟨d, .load t x, ty, pos, af, gd⟩ (.agg r.toArray) := .of fun a w st => by
  subst hr
  obtain ⟨h1, fs, h2⟩ := aggB_size ht
  have hl' := Nat.le_of_ble_eq_true hl
  have hn : ((c.drop o).take n).length = n := by simp; omega
  have hcl : (loadCells ⟨g, o, none⟩ n).run P w = .ok ((c.drop o).take n).toArray w := by
    have := run_loadCells_list (P := P) w ⟨g, o, none⟩ ((c.drop o).take n) fun j v hj => by
      have hadd : (⟨g, o, none⟩ : Addr).add j = ⟨g, o + j, none⟩ := by unfold Addr.add; split <;> simp_all
      rw [hadd]
      refine st.has.cell hm ?_
      rw [nth_eq]
      have hj2 : j < n := by have := (List.getElem?_eq_some_iff.1 hj).1; omega
      rw [List.getElem?_take_of_lt hj2, List.getElem?_drop] at hj
      exact hj
    rwa [hn] at this
  have hagg : (isAgg t).run P w = .ok true w := by
    unfold isAgg
    rw [Sem.run_bind, run_underlying h2 w]
    rfl
  cases hq : P.info? t with
  | none => simp [hq] at h1
  | some inf =>
    have hsz : inf.size = n := by simpa [hq] using h1
    simp [execOp, st.agr.eval hx, Instr.loadAt, Instr.sureAddr, loadVar, hagg, sizeOf, typeInfo, hq, hsz, hcl]
def isAggT (P : Program) (t : TypeId) : Option Bool := match P.underlying t with
  | some (.struct _) => some true
  | some (.array _ _) => some true
  | some _ => some false
  | none => none
def partV (P : Program) (t : TypeId) (cs : List Value) (off : Nat) : Option Value := match isAggT P t with
  | some true => match P.info? t with
    | some i => some (.agg ((cs.drop off).take i.size).toArray)
    | none => none
  | some false => nth cs off
  | none => none
theorem run_part {t : TypeId} {cs : List Value} {off : Nat} {v : Value} (h : partV P t cs off = some v) (w : World) : (part t cs.toArray off).run P w = .ok v w := by
  unfold partV at h
  have hagg : ∀ b, isAggT P t = some b → (isAgg t).run P w = .ok b w := by
    intro b hb
    unfold isAggT at hb
    unfold isAgg
    rw [Sem.run_bind]
    cases hu : P.underlying t with
    | none => simp [hu] at hb
    | some u =>
      rw [run_underlying hu w]
      cases u <;> simp_all
  split at h
  · rename_i hb
    split at h
    · rename_i i hi
      obtain rfl := Option.some.inj h
      simp [part, hagg _ hb, sizeOf, typeInfo, hi, List.extract_toArray]
    · cases h
  · rename_i hb
    rw [nth_eq] at h
    simp [part, hagg _ hb, h]
  · cases h
def eqFs (P : Program) (eq : TypeId → Value → Value → Option Bool) (xs ys : List Value) : List Field → Option Bool
  | [] => some true
  | f :: fs => if f.name = "_" then eqFs P eq xs ys fs else match partV P f.type xs f.offset, partV P f.type ys f.offset with
    | some a, some b => match eq f.type a b, eqFs P eq xs ys fs with
      | some r, some s => some (r && s)
      | _, _ => none
    | _, _ => none
def eqE (P : Program) : Nat → TypeId → Value → Value → Option Bool
  | 0, _, _, _ => none
  | d + 1, t, x, y => match P.underlying t, x, y with
    | some .bool, .bool a, .bool b => some (a == b)
    | some (.int _), .int k a, .int k' b => if k = k' then some (decide (a = b)) else none
    | some .string, .string a, .string b => some (decide (a = b))
    | some (.struct fs), .agg xs, .agg ys => match P.stoodInHeld t with
      | true => none
      | false => eqFs P (eqE P d) xs.toList ys.toList fs.toList
    | _, _, _ => none
theorem run_eqFs {d : Nat} {xs ys : List Value} (ih : ∀ t x y b, eqE P d t x y = some b → ∀ w, (Op.equalIn d t x y).run P w = .ok b w) : ∀ (fs : List Field) {b : Bool}, eqFs P (eqE P d) xs ys fs = some b → ∀ w, (Op.eqFields d xs.toArray ys.toArray fs).run P w = .ok b w := by
  intro fs
  induction fs with
  | nil => intro b h w; simp only [eqFs, Option.some.injEq] at h; subst h; simp [Op.eqFields]
  | cons f fs ihf =>
    intro b h w
    simp only [eqFs] at h
    by_cases hn : f.name = "_"
    · rw [if_pos hn] at h
      rw [Op.eqFields, if_neg (by simpa using hn)]
      exact ihf h w
    · rw [if_neg hn] at h
      split at h
      · rename_i a b' ha hb
        split at h
        · rename_i r s hr hs
          obtain rfl := Option.some.inj h
          rw [Op.eqFields, if_pos hn]
          simp only [Sem.run_bind, run_part ha, run_part hb, ih _ _ _ _ hr, Result.andThen_ok]
          cases r
          · simp
          · simpa using ihf hs w
        · cases h
      · cases h
theorem run_eqE : ∀ (d : Nat) (t : TypeId) (x y : Value) (b : Bool), eqE P d t x y = some b → ∀ w, (Op.equalIn d t x y).run P w = .ok b w := by
  intro d
  induction d with
  | zero => intro t x y b h; simp [eqE] at h
  | succ d ih =>
    intro t x y b h w
    unfold eqE at h
    split at h
    · rename_i hu
      obtain rfl := Option.some.inj h
      exact run_equalIn_bool' w d t _ _ hu
    · rename_i hu
      split at h
      · rename_i hk
        subst hk
        obtain rfl := Option.some.inj h
        rw [run_equalIn_int w d t _ _ _ _ hu, beqI]
      · cases h
    · rename_i hu
      obtain rfl := Option.some.inj h
      rw [run_equalIn_string w d t _ _ hu, str_eq]
    · rename_i fs xs ys hu
      split at h
      · cases h
      · rename_i hp
        have hf : P.fieldsOf t = fs := by simp [Program.fieldsOf, hu]
        rw [run_equalIn_struct (P := P) w d t xs ys (by rw [hf]; exact hu) hp, hf]
        exact run_eqFs ih _ h w
    · cases h
theorem eqG_agg {op : BinOp} {t : TypeId} {x y : Operand} {xs ys : Array Value} (hg : P.eqGuardType P.depth t = false) (w : World) : (eqGuard op t x y (.agg xs) (.agg ys)).run P w = .ok () w := by
  unfold eqGuard
  cases op <;> simp [hg]
theorem yeqA {x y : Operand} {xs ys : List Value} {c : Bool} {t t' : TypeId} (hx : evF f x = some (.agg xs.toArray)) (hy : evF f y = some (.agg ys.toArray)) (hg : P.eqGuardType P.depth t = false) (hc : eqE P 10000 t (.agg xs.toArray) (.agg ys.toArray) = some c) :
    Yl X P f m ⟨d, .binOp .eql t x y t', ty, pos, af, gd⟩ (.bool c) := .of fun a w s => by
  have h1 := run_eqE 10000 t _ _ c hc w
  have h2 := eqG_agg (op := .eql) (x := x) (y := y) (xs := xs.toArray) (ys := ys.toArray) hg w
  simp [execOp, s.agr.eval hx, s.agr.eval hy, binOp, h2, Op.equal, Op.maxDepth, h1]
theorem yneA {x y : Operand} {xs ys : List Value} {c : Bool} {t t' : TypeId} (hx : evF f x = some (.agg xs.toArray)) (hy : evF f y = some (.agg ys.toArray)) (hg : P.eqGuardType P.depth t = false) (hc : eqE P 10000 t (.agg xs.toArray) (.agg ys.toArray) = some c) :
    Yl X P f m ⟨d, .binOp .neq t x y t', ty, pos, af, gd⟩ (.bool (!c)) := .of fun a w s => by
  have h1 := run_eqE 10000 t _ _ c hc w
  have h2 := eqG_agg (op := .neq) (x := x) (y := y) (xs := xs.toArray) (ys := ys.toArray) hg w
  simp [execOp, s.agr.eval hx, s.agr.eval hy, binOp, h2, Op.equal, Op.maxDepth, h1]
end
end Go.Rx
namespace Go.Rx
open Go.RowKit
theorem foldl_at (off : Nat) (c : List Value) : ∀ (pre z post : List Value) (j : Nat), z.length = c.length → pre.length = off + j → (c.zipIdx j).foldl (fun cs (q : Value × Nat) => cs.setIfInBounds (off + q.2) q.1) (pre ++ z ++ post).toArray = (pre ++ c ++ post).toArray := by
  induction c with
  | nil => intro pre z post j hz hp; simp at hz; subst hz; simp
  | cons v c ih =>
    intro pre z post j hz hp
    cases z with
    | nil => simp at hz
    | cons z0 z =>
      simp only [List.length_cons, Nat.add_right_cancel_iff] at hz
      simp only [List.zipIdx_cons, List.foldl_cons]
      have e : ((pre ++ z0 :: z ++ post).toArray.setIfInBounds (off + j) v) = ((pre ++ [v]) ++ z ++ post).toArray := by
        rw [← hp]
        apply Array.toList_inj.1
        simp
      rw [e, ih (pre ++ [v]) z post (j + 1) hz (by simp; omega)]
      simp
def cellsL (v : Value) : List Value := v.cells.toList
theorem fill_all (size : Nat) (vs : List Value) : ∀ (k : Nat) (done rest : List Value), done.length = k * size → rest.length = vs.length * size → (∀ v ∈ vs, v.cells.size = size) →
    Instr.fill (fun i => some (i * size, size)) (done ++ rest).toArray (vs.zipIdx k |>.map fun q => (q.2, q.1)) = some (done ++ vs.flatMap cellsL).toArray := by
  induction vs with
  | nil => intro k done rest hd hr hv; simp at hr; subst hr; simp [Instr.fill]
  | cons v vs ih =>
    intro k done rest hd hr hv
    have hsz := hv v List.mem_cons_self
    simp only [List.length_cons] at hr
    rw [Nat.add_mul, Nat.one_mul] at hr
    simp only [List.zipIdx_cons, List.map_cons, Instr.fill]
    rw [if_neg (by simp [hsz]; omega)]
    obtain ⟨z, post, rfl, hz⟩ : ∃ z post, rest = z ++ post ∧ z.length = size := ⟨rest.take size, rest.drop size, (List.take_append_drop _ _).symm, by simp; omega⟩
    have hf : v.cells.zipIdx.foldl (fun cs (x : Value × Nat) => match x with | (c, j) => cs.setIfInBounds (k * size + j) c) (done ++ (z ++ post)).toArray = (done ++ cellsL v ++ post).toArray := by
      rw [← Array.foldl_toList, Array.toList_zipIdx, ← List.append_assoc]
      exact foldl_at (k * size) v.cells.toList done z post 0 (by simp [hz, hsz]) (by omega)
    rw [hf]
    have := ih (k + 1) (done ++ cellsL v) post (by simp [cellsL, hd, hsz, Nat.add_mul]) (by simp at hr; omega) (fun u hu => hv u (List.mem_cons_of_mem _ hu))
    rw [this]
    simp
section
variable {X : Cx} {P : Program} {f : Fr} {m : Mem} {d : Option Tmp} {ty : TypeId} {pos : String} {af : Array Edge} {gd : Option (Nat × Bool)}
variable {ops : Array Oper} {Q : Exit → Act → World → Prop} {K : Act → World → Prop} {rest : List Oper}
def numF : Nat → List Value → List (Nat × Value)
  | _, [] => []
  | k, v :: r => (k, v) :: numF (k + 1) r
theorem numF_eq (vs : List Value) : ∀ k, numF k vs = (vs.zipIdx k).map fun q => (q.2, q.1) := by
  induction vs with
  | nil => intro k; rfl
  | cons v r ih => intro k; simp [numF, ih]
theorem jlitN {dd n : Nat} {xs : List (Nat × Operand)} {vs : List Value} {t e size bytes : Nat} {c : List Value} (hx : partsF f xs = some (numF 0 vs)) (hn : vs.length = n) (hc : vs.flatMap cellsL = c) (hl : vs.all (fun v => Nat.beq v.cells.size size) = true) (hg : growB P t e size bytes = true) (h0 : Nat.blt 0 size = true) (h1 : Nat.ble (n * size) 100000 = true) (hp : Nat.blt 0 n = true) (hd : Nat.blt dd X.n = true)
    (h : ∀ g, X.w0.heap.size ≤ g → J false X P ops Q K rest ((dd, .slice (some ⟨g, 0, none⟩) n n) :: f) ((g, c, e) :: m)) : J false X P ops Q K (⟨some dd, .buildSlice t n xs.toArray, ty, pos, af, none⟩ :: rest) f m := by
  subst hc
  refine jeff (ι := Nat) (v := fun g => .slice (some ⟨g, 0, none⟩) n n) (m' := fun g => (g, vs.flatMap cellsL, e) :: m) (fun g => X.w0.heap.size ≤ g) rfl hd (fun a w st => ⟨w.heap.size, w.alloc (.cells (vs.flatMap cellsL).toArray e), .inl ?_, st.has.push _ _, st.evo.push _, st.evo.size⟩) (fun g hg => h g hg)
  obtain ⟨hu, inf, z, q1, q2, q3, q4, q5⟩ := growB_eq hg
  have h0' : 0 < size := by simpa using h0
  have hp' : 0 < n := by simpa using hp
  have h1' := Nat.le_of_ble_eq_true h1
  have hne : 0 < n * size := Nat.mul_pos hp' h0'
  have he := partsF_eval st.agr xs hx
  have hfill := fill_all size vs 0 [] ((Array.range (n * size)).map (z.cells[· % z.cells.size]!)).toList (by simp) (by simp [hn]) (fun v hv => Nat.eq_of_beq_eq_true (List.all_eq_true.1 hl v hv))
  simp only [List.nil_append] at hfill
  rw [numF_eq] at he
  simp only [execOp, Instr.buildSlice, List.map_toArray, he, Sem.run_bind, run_underlying hu, Result.andThen_ok, sizeOf, typeInfo, program, Sem.run, q1, Sem.run_pure, q3]
  rw [if_neg (by omega), if_neg (by omega)]
  simp only [zeroValue, typeInfo, program, Sem.run_bind, Sem.run, q1, q2, Sem.run_pure, Result.andThen_ok]
  have hfill' : Instr.fill (fun i => some (i * size, size)) ((Array.range (n * size)).map (z.cells[· % z.cells.size]!)) ((vs.zipIdx 0).map fun q => (q.2, q.1)) = some (vs.flatMap cellsL).toArray := by
    rw [← hfill]
  simp only [hfill']
  simp [newRow, run_newObj]
end
end Go.Rx
namespace Go.Rx
open Go.RowKit
def kvC (l : List (ByteArray × Value)) : List Value := l.flatMap fun p => [.string p.1, p.2]
def kvGet (k : ByteArray) : List (ByteArray × Value) → Option (Nat × Value)
  | [] => none
  | (a, v) :: r => if a = k then some (0, v) else (kvGet k r).map fun p => (p.1 + 1, p.2)
def kvVal (k : ByteArray) (l : List (ByteArray × Value)) : Option Value := (kvGet k l).map (·.2)
def kvSet (k : ByteArray) (v : Value) : List (ByteArray × Value) → List (ByteArray × Value)
  | [] => [(k, v)]
  | (a, u) :: r => if a = k then (k, v) :: r else (a, u) :: kvSet k v r
def EntsAre (es : List MapEntry) (l : List (ByteArray × Value)) : Prop := es.map (fun e => (e.key, e.val)) = l.map fun p => (Value.string p.1, p.2)
theorem ents_of {es : List MapEntry} {l : List (ByteArray × Value)} (h : es.flatMap (fun e => [e.key, e.val]) = kvC l) : EntsAre es l := by
  unfold EntsAre
  induction es generalizing l with
  | nil =>
    cases l with
    | nil => rfl
    | cons p l => simp [kvC] at h
  | cons e es ih =>
    cases l with
    | nil => simp [kvC] at h
    | cons p l =>
      simp only [List.flatMap_cons, kvC, List.cons_append, List.nil_append, List.cons.injEq] at h
      obtain ⟨h1, h2, h3⟩ := h
      simp only [List.map_cons, h1, h2, List.cons.injEq, true_and]
      exact ih h3
theorem EntsAre.flat {es : List MapEntry} {l : List (ByteArray × Value)} (h : EntsAre es l) : es.flatMap (fun e => [e.key, e.val]) = kvC l := by
  unfold EntsAre at h
  induction es generalizing l with
  | nil =>
    cases l with
    | nil => rfl
    | cons p l => simp at h
  | cons e es ih =>
    cases l with
    | nil => simp at h
    | cons p l =>
      simp only [List.map_cons, List.cons.injEq, Prod.mk.injEq] at h
      obtain ⟨⟨h1, h2⟩, h3⟩ := h
      simp only [List.flatMap_cons, kvC, h1, h2, List.cons_append, List.nil_append, List.cons.injEq, true_and]
      exact ih h3
theorem EntsAre.len {es : List MapEntry} {l : List (ByteArray × Value)} (h : EntsAre es l) : es.length = l.length := by
  have := congrArg List.length h
  simpa using this
theorem find_now (k : ByteArray) : ∀ (es : List MapEntry) (l : List (ByteArray × Value)) (i : Nat), EntsAre es l → Instr.findNow .string (.string k) es i = some ((kvGet k l).map fun p => (i + p.1, p.2)) := by
  intro es
  induction es with
  | nil =>
    intro l i h
    cases l with
    | nil => rfl
    | cons p l => simp [EntsAre] at h
  | cons e es ih =>
    intro l i h
    cases l with
    | nil => simp [EntsAre] at h
    | cons p l =>
      unfold EntsAre at h
      simp only [List.map_cons, List.cons.injEq, Prod.mk.injEq] at h
      obtain ⟨⟨h1, h2⟩, h3⟩ := h
      obtain ⟨a, v⟩ := p
      dsimp only at h1 h2
      by_cases e1 : a = k
      · subst e1
        have : Instr.sameNow .string (.string a) e.key = some true := by rw [h1]; simp [Instr.sameNow, MapKept.bytes_beq]
        simp [Instr.findNow, this, kvGet, h2]
      · have : Instr.sameNow .string (.string k) e.key = some false := by
          rw [h1]
          simp only [Instr.sameNow, Option.some.injEq]
          rw [Bool.eq_false_iff]
          intro hc
          exact e1 ((MapKept.bytes_beq _ _).1 hc).symm
        simp only [Instr.findNow, this, ih l (i + 1) h3, kvGet, if_neg e1, Option.map_map]
        congr 1
        cases kvGet k l with
        | none => rfl
        | some q => simp; omega
theorem kvGet_lt {k : ByteArray} : ∀ {l : List (ByteArray × Value)} {j : Nat} {v : Value}, kvGet k l = some (j, v) → l[j]? = some (k, v) := by
  intro l
  induction l with
  | nil => intro j v h; cases h
  | cons p l ih =>
    obtain ⟨a, u⟩ := p
    intro j v h
    unfold kvGet at h
    split at h
    · rename_i e
      subst e
      cases h
      rfl
    · cases hq : kvGet k l with
      | none => rw [hq] at h; cases h
      | some q =>
        rw [hq] at h
        simp only [Option.map_some, Option.some.injEq, Prod.mk.injEq] at h
        obtain ⟨rfl, rfl⟩ := h
        simpa using ih hq
theorem kvSet_new {k : ByteArray} {v : Value} : ∀ {l : List (ByteArray × Value)}, kvGet k l = none → kvSet k v l = l ++ [(k, v)] := by
  intro l
  induction l with
  | nil => intro _; rfl
  | cons p l ih =>
    obtain ⟨a, u⟩ := p
    intro h
    unfold kvGet at h
    split at h
    · cases h
    · rename_i e
      have : kvGet k l = none := by
        cases hq : kvGet k l with
        | none => rfl
        | some q => rw [hq] at h; cases h
      simp [kvSet, e, ih this]
theorem kvSet_old {k : ByteArray} {v : Value} : ∀ {l : List (ByteArray × Value)} {j : Nat} {u : Value}, kvGet k l = some (j, u) → kvSet k v l = l.set j (k, v) := by
  intro l
  induction l with
  | nil => intro j u h; cases h
  | cons p l ih =>
    obtain ⟨a, u'⟩ := p
    intro j u h
    unfold kvGet at h
    split at h
    · rename_i e
      cases h
      simp [kvSet, e]
    · rename_i e
      cases hq : kvGet k l with
      | none => rw [hq] at h; cases h
      | some q =>
        rw [hq] at h
        simp only [Option.map_some, Option.some.injEq, Prod.mk.injEq] at h
        obtain ⟨rfl, rfl⟩ := h
        simp [kvSet, e, ih hq]
theorem modify_map (k v : Value) : ∀ (es : List MapEntry) (j : Nat), (es.modify j (fun e => { e with key := k, val := v })).map (fun e => (e.key, e.val)) = (es.map fun e => (e.key, e.val)).set j (k, v) := by
  intro es
  induction es with
  | nil => intro j; cases j <;> simp
  | cons e es ih =>
    intro j
    cases j with
    | zero => simp
    | succ j => simp [ih]
theorem Has.map {m : Mem} {w : World} (h : Has m w) {i g : Nat} {l : List (ByteArray × Value)} (hi : m[i]? = some (g, kvC l, Bk.m)) : ∃ es clock, w.heap[g]? = some (.map es clock) ∧ EntsAre es.toList l := by
  obtain ⟨es, cl, h1, h2⟩ := h.blk _ (List.mem_of_getElem? hi)
  exact ⟨es, cl, h1, ents_of h2⟩
theorem Has.setMap {m : Mem} {w : World} (h : Has m w) {i g : Nat} {c : List Value} (hi : m[i]? = some (g, c, Bk.m)) {es : Array MapEntry} {cl : Nat} {l : List (ByteArray × Value)} (he : EntsAre es.toList l) : Has (setM m i (kvC l)) { w with heap := w.heap.setIfInBounds g (.map es cl) } := by
  have hlt := h.lt (List.mem_of_getElem? hi)
  refine ⟨by rw [setM_fst]; exact h.ne, fun x hx => ?_⟩
  rcases setM_mem hi h.ne x hx with rfl | ⟨hx, hne⟩
  · refine ⟨es, cl, ?_, he.flat⟩
    dsimp only at hlt ⊢
    simp [hlt]
  · exact (h.blk x hx).eq (by dsimp only; rw [Array.getElem?_setIfInBounds, if_neg (Ne.symm hne)])
theorem Evo.setMap {S : Nat → Prop} {w0 w : World} (h : Evo S w0 w) {g : Nat} (hg : S g ∨ w0.heap.size ≤ g) (o : Obj) : Evo S w0 { w with heap := w.heap.setIfInBounds g o } := by
  refine ⟨h.os, h.tape, h.output, by simpa using h.size, fun k hk hs => ?_⟩
  dsimp only
  rw [Array.getElem?_setIfInBounds, if_neg (by rintro rfl; rcases hg with hg | hg; exact hs hg; omega)]
  exact h.block k hk hs
def mapB (P : Program) (t : TypeId) : Option TypeId := match P.underlying t with
  | some (.map k e) => match P.underlying k with
    | some .string => some e
    | _ => none
  | _ => none
theorem mapB_eq {P : Program} {t e : TypeId} (h : mapB P t = some e) : ∃ k, P.underlying t = some (.map k e) ∧ P.underlying k = some .string := by
  unfold mapB at h
  split at h
  · rename_i k e' hu
    split at h
    · rename_i hk; cases h; exact ⟨k, hu, hk⟩
    · cases h
  · cases h
section
variable {X : Cx} {P : Program} {f : Fr} {m : Mem} {d : Option Tmp} {ty : TypeId} {pos : String} {af : Array Edge} {gd : Option (Nat × Bool)}
theorem ylookup {x y : Operand} {t e g i : Nat} {k : ByteArray} {l : List (ByteArray × Value)} {z v : Value} (hx : evF f x = some (.map (some g))) (hy : evF f y = some (.string k)) (hm : m[i]? = some (g, kvC l, Bk.m)) (ht : mapB P t = some e) (hz : (P.info? e).bind (·.zero) = some z) (hv : (kvVal k l).getD z = v) :
    Yl X P f m ⟨d, .lookup t x y false, ty, pos, af, gd⟩ v := .of fun a w st => by
  obtain ⟨kt, h1, h2⟩ := mapB_eq ht
  obtain ⟨es, cl, h3, h4⟩ := st.has.map hm
  have hf := find_now k _ _ 0 h4
  have hc : ∀ b, (Instr.checkKey b 10000 kt (.string k)).run P w = .ok () w := fun b => MapKept.run_checkKey (k := .string k) h2 (by simp [MapKept.IsKey]) b 9999
  subst hv
  cases hq : P.info? e with
  | none => simp [hq] at hz
  | some inf =>
    have hz' : inf.zero = some z := by simpa [hq] using hz
    cases hg : kvGet k l with
    | none =>
      rw [hg] at hf
      simp [execOp, st.agr.eval hx, st.agr.eval hy, Instr.lookup, run_underlying h1, MapKept.run_getObj_map h3, hc, MapKept.run_findKey h2 hf, Result.andThen, zeroValue, typeInfo, hq, hz', kvVal, hg]
    | some q =>
      rw [hg] at hf
      simp [execOp, st.agr.eval hx, st.agr.eval hy, Instr.lookup, run_underlying h1, MapKept.run_getObj_map h3, hc, MapKept.run_findKey h2 hf, Result.andThen, kvVal, hg]
variable {ops : Array Oper} {Q : Exit → Act → World → Prop} {K : Act → World → Prop} {rest : List Oper}
theorem jmakeMap {dd t : Nat} (hd : Nat.blt dd X.n = true) (h : ∀ g, X.w0.heap.size ≤ g → J false X P ops Q K rest ((dd, .map (some g)) :: f) ((g, kvC [], Bk.m) :: m)) : J false X P ops Q K (⟨some dd, .makeMap t none, ty, pos, af, none⟩ :: rest) f m := by
  refine jeff (ι := Nat) (v := fun g => .map (some g)) (m' := fun g => (g, kvC [], Bk.m) :: m) (fun g => X.w0.heap.size ≤ g) rfl hd (fun a w st => ⟨w.heap.size, w.alloc (.map #[] 0), .inl ?_, ⟨?_, fun x hx => ?_⟩, st.evo.push _, st.evo.size⟩) (fun g hg => h g hg)
  · simp [execOp, run_makeMap]
  · simp only [List.map_cons, List.nodup_cons]
    refine ⟨fun hc => ?_, st.has.ne⟩
    obtain ⟨x, hx, e⟩ := List.mem_map.1 hc
    have := st.has.lt hx
    omega
  · simp only [List.mem_cons] at hx
    rcases hx with rfl | hx
    · exact ⟨#[], 0, heap_alloc_new w _, rfl⟩
    · exact (st.has.blk x hx).eq (heap_alloc_old w _ (st.has.lt hx))
theorem jupdate {x y z : Operand} {t e g i : Nat} {k : ByteArray} {v : Value} {l : List (ByteArray × Value)} (hx : evF f x = some (.map (some g))) (hy : evF f y = some (.string k)) (hz : evF f z = some v) (hm : m[i]? = some (g, kvC l, Bk.m)) (ht : mapB P t = some e) (hg : X.S g ∨ X.w0.heap.size ≤ g)
    (h : J false X P ops Q K rest f (setM m i (kvC (kvSet k v l)))) : J false X P ops Q K (⟨none, .mapUpdate t x y z, ty, pos, af, none⟩ :: rest) f m := by
  refine jeff (ι := Unit) (v := fun _ => undef) (m' := fun _ => setM m i (kvC (kvSet k v l))) (fun _ => True) rfl rfl (fun a w st => ?_) (fun _ _ => h)
  obtain ⟨kt, h1, h2⟩ := mapB_eq ht
  obtain ⟨es, cl, h3, h4⟩ := st.has.map hm
  have hf := find_now k _ _ 0 h4
  have hc : ∀ b, (Instr.checkKey b 10000 kt (.string k)).run P w = .ok () w := fun b => MapKept.run_checkKey (k := .string k) h2 (by simp [MapKept.IsKey]) b 9999
  cases hq : kvGet k l with
  | none =>
    rw [hq] at hf
    refine ⟨(), { w with heap := w.heap.setIfInBounds g (.map (es.push { key := .string k, val := v, born := cl }) (cl + 1)) }, .inr ⟨?_, rfl⟩, st.has.setMap hm ?_, st.evo.setMap hg _, trivial⟩
    · simp [execOp, st.agr.eval hx, st.agr.eval hy, st.agr.eval hz, Instr.mapUpdate, run_underlying h1, MapKept.run_getObj_map h3, hc, MapKept.run_findKey h2 hf, MapKept.run_setObj_map _ h3, Result.andThen]
    · rw [kvSet_new hq]
      unfold EntsAre at h4 ⊢
      simp [h4]
  | some q =>
    obtain ⟨j, u⟩ := q
    rw [hq] at hf
    have hj := kvGet_lt hq
    have hek : ((es[j]?).map (·.key)).getD (.string k) = .string k := by
      have := congrArg (fun l => (l[j]?).map (·.1)) h4
      simp only [List.getElem?_map, hj, Option.map_some] at this
      cases he : es[j]? with
      | none => rfl
      | some x => simp [he] at this; simp [this]
    refine ⟨(), { w with heap := w.heap.setIfInBounds g (.map (es.modify j fun e => { e with key := .string k, val := v }) cl) }, .inr ⟨?_, rfl⟩, st.has.setMap hm ?_, st.evo.setMap hg _, trivial⟩
    · have hst : (Instr.keyThatStays (.string k) (.string k)).run P w = .ok (.string k) w := by
        simp [Instr.keyThatStays, Instr.sameBits, (MapKept.bytes_beq k k).2 rfl]
      simp [execOp, st.agr.eval hx, st.agr.eval hy, st.agr.eval hz, Instr.mapUpdate, run_underlying h1, MapKept.run_getObj_map h3, hc, MapKept.run_findKey h2 hf, MapKept.run_setObj_map _ h3, Result.andThen, hek, hst]
    · rw [kvSet_old hq]
      unfold EntsAre at h4 ⊢
      rw [List.map_set, ← h4, Array.toList_modify, modify_map]
end
end Go.Rx
namespace Go.Rx
open Go.RowKit
theorem Has.perm {m m' : Mem} {w : World} (h : Has m w) (hp : m.Perm m') : Has m' w := ⟨(hp.map _).nodup_iff.1 h.ne, fun x hx => h.blk x (hp.mem_iff.2 hx)⟩
theorem jperm {X : Cx} {P : Program} {ops : Array Oper} {Q : Exit → Act → World → Prop} {K : Act → World → Prop} {l : List Oper} {f : Fr} {m m' : Mem} (hp : m.Perm m') (h : J false X P ops Q K l f m') : J false X P ops Q K l f m := ⟨fun a w s => h.out a w ⟨s.agr, s.has.perm hp, s.evo⟩⟩
theorem jmem {qt : Bool} {X : Cx} {P : Program} {ops : Array Oper} {Q : Exit → Act → World → Prop} {K : Act → World → Prop} {l : List Oper} {f : Fr} {m m' : Mem} (hp : m' = m) (h : J qt X P ops Q K l f m') : J qt X P ops Q K l f m := hp ▸ h
theorem pmem {X : Cx} {q : Act → World → Prop} {f : Fr} {m m' : Mem} (hp : m' = m) (h : PJ X q f m') : PJ X q f m := hp ▸ h
theorem add_zero (a : Addr) : a.add 0 = a := by unfold Addr.add; simp
theorem add_lit (g i : Nat) : (⟨g, 0, none⟩ : Addr).add i = ⟨g, i, none⟩ := by unfold Addr.add; split <;> simp_all
theorem add_add (a : Addr) (i j : Nat) : (a.add i).add j = a.add (i + j) := by
  unfold Addr.add
  by_cases hi : i = 0 <;> by_cases hj : j = 0 <;> simp [hi, hj, Nat.add_assoc]
theorem add_block (a : Addr) (i : Nat) : (a.add i).block = a.block := by unfold Addr.add; split <;> rfl
def Src (X : Cx) (m : Mem) (A : Option Addr) (news : List Value) : Prop := ∀ w, Cl X m w → ∀ (j : Nat) u, news[j]? = some u → ∃ ad, A = some ad ∧ w.cell? (ad.add j) = some u
theorem src_nil (X : Cx) (m : Mem) (A : Option Addr) : Src X m A [] := fun w _ j u h => by simp at h
theorem src_blk {X : Cx} {m : Mem} {i g : Nat} {c news : List Value} {t : TypeId} {ad : Addr} (o : Nat) (hm : m[i]? = some (g, c, Bk.c t)) (ha : (⟨g, 0, none⟩ : Addr).add o = ad) (hn : ∀ (j : Nat) u, news[j]? = some u → c[o + j]? = some u) : Src X m (some ad) news := fun w hw j u hj => by
  subst ha
  refine ⟨_, rfl, ?_⟩
  rw [add_add, add_lit]
  exact hw.1.cell hm (by rw [nth_eq]; exact hn j u hj)
theorem cell_evo {S : Nat → Prop} {w0 w : World} (h : Evo S w0 w) {p : Addr} {v : Value} (hs : ¬ S p.block) (hc : w0.cell? p = some v) : w.cell? p = some v := by
  have hlt : p.block < w0.heap.size := by
    rcases Nat.lt_or_ge p.block w0.heap.size with h | h
    · exact h
    · simp [World.cell?, Array.getElem?_eq_none h] at hc
  unfold World.cell? at hc ⊢
  rw [h.block _ hlt hs]
  exact hc
def Row.may (X : Cx) : Row → Prop
  | .nil => True
  | .at g _ _ => X.S g ∨ X.w0.heap.size ≤ g
theorem run_append_none {P : Program} (w : World) {t ty e : TypeId} {size bytes : Nat} (hg : growB P t e size bytes = true) {B n k cx : Nat} {xs : List Value} {r : Row} (hr : r.ok B size n xs) (hk : k = 0) : (Builtin.append_ #[t, t] ty #[r.val n, .slice none k cx]).run P w = .ok (r.val n) w := by
  subst hk
  obtain ⟨hu, inf, z, q1, q2, q3, q4, q5⟩ := growB_eq hg
  cases r with
  | nil =>
    obtain ⟨rfl, rfl⟩ := hr
    simp [Row.val, Builtin.append_, run_underlying hu, sizeOf, typeInfo, q1, Builtin.lenOf, Builtin.firstCells]
  | «at» g cap rr =>
    obtain ⟨h1, h2, h3, h4, h5⟩ := hr
    simp [Row.val, Builtin.append_, run_underlying hu, sizeOf, typeInfo, q1, Builtin.lenOf, Builtin.firstCells, h3, storeCells]
section
variable {X : Cx} {P : Program} {f : Fr} {m : Mem} {d : Option Tmp} {ty : TypeId} {pos : String} {af : Array Edge} {gd : Option (Nat × Bool)} {ops : Array Oper} {Q : Exit → Act → World → Prop} {K : Act → World → Prop} {rest : List Oper}
theorem jappendX {dd : Nat} {x y : Operand} {t e size bytes n k cx B : Nat} {A : Option Addr} {xs news : List Value} {r : Row} (m0 : Mem) (hm : m = m0 ++ r.mem xs e) (hs : evF f x = some (r.val n)) (hx : evF f y = some (.slice A k cx)) (hsrc : Src X m A news)
    (hl : news.length = k * size) (h1 : ∀ u ∈ news, u.oneCell' = true) (hr : r.ok B size n xs) (hB : B ≤ X.w0.heap.size) (hS : r.may X) (hg : growB P t e size bytes = true) (h0 : 0 < size) (hn : n + k ≤ maxLen) (hb : (n + k) * bytes ≤ 140737488355328) (hd : Nat.blt dd X.n = true)
    (h : ∀ r' : Row, r'.ok B size (n + k) (xs ++ news) → r'.may X → J false X P ops Q K rest ((dd, r'.val (n + k)) :: f) (m0 ++ r'.mem (xs ++ news) e)) :
    J false X P ops Q K (⟨some dd, .call ⟨.builtin .append, #[x, y], #[t, t]⟩, ty, pos, af, none⟩ :: rest) f m := by
  subst hm
  refine jeff (ι := Row) (v := fun r' => r'.val (n + k)) (m' := fun r' => m0 ++ r'.mem (xs ++ news) e) (fun r' => r'.ok B size (n + k) (xs ++ news) ∧ r'.may X) rfl hd (fun a w st => ?_) (fun r' hr' => h r' hr'.1 hr'.2)
  obtain ⟨hu, inf, z, q1, q2, q3, q4, q5⟩ := growB_eq hg
  have hsrc' := hsrc w ⟨st.has, st.evo⟩
  cases A with
  | none =>
    have hnil : news = [] := by
      cases news with
      | nil => rfl
      | cons u l => obtain ⟨ad, e1, _⟩ := hsrc' 0 u rfl; cases e1
    subst hnil
    have hk : k = 0 := by
      have : k * size = 0 := by simpa using hl.symm
      rcases Nat.mul_eq_zero.1 this with h | h
      · exact h
      · omega
    subst hk
    refine ⟨r, w, .inl ?_, by simpa using st.has, st.evo, by simpa using hr, hS⟩
    have e1 := run_append_none (P := P) (ty := ty) (cx := cx) w hg hr rfl
    simp only [execOp, resolve, invoke, builtin, Sem.run_bind, Sem.run_pure, Result.andThen_ok, List.map_toArray, List.map_cons, List.map_nil, st.agr.eval hs, st.agr.eval hx, e1, Nat.add_zero]
  | some ad =>
    have hown := Row.owns (e := e) hr st.has
    obtain ⟨v', w', e1, e2, e3, _, e5⟩ := run_append_own_at (P := P) w B t ty e inf z size bytes hu q1 q2 q3 q4 q5 h0 (r.val n) n xs hown ad k cx news hl
      (fun j u hj => by obtain ⟨ad', e, hc⟩ := hsrc' j u hj; cases e; exact hc) h1 hn hb (Nat.le_trans hB st.evo.size)
    obtain ⟨r', rfl, hr', hm'⟩ := Row.of_owns e2
    have hne := st.has.ne
    rw [List.map_append, List.nodup_append] at hne
    have hkeep : ∀ x ∈ m0, BlkAt w' x.1 x.2.1 x.2.2 := fun x hx => by
      refine (st.has.blk x (List.mem_append_left _ hx)).eq (e3.block _ (st.has.lt (List.mem_append_left _ hx)) ?_)
      cases r with
      | nil => simp [Row.val, Value.ownBlock]
      | «at» g cap rr =>
        simp only [Row.val, Value.ownBlock, ne_eq, Option.some.injEq]
        exact hne.2.2 _ (List.mem_map_of_mem hx) _ (by simp [Row.mem])
    refine ⟨r', w', .inl ?_, ?_, ?_, hr', ?_⟩
    · simp only [execOp, resolve, invoke, builtin, Sem.run_bind, Sem.run_pure, Result.andThen_ok, List.map_toArray, List.map_cons, List.map_nil, st.agr.eval hs, st.agr.eval hx, e1]
    · refine ⟨?_, fun x hx => ?_⟩
      · rw [List.map_append, List.nodup_append]
        refine ⟨hne.1, by cases r' <;> simp [Row.mem], fun a ha b hb' => ?_⟩
        cases r' with
        | nil => simp [Row.mem] at hb'
        | «at» g' cap' rr' =>
          simp only [Row.mem, List.map_cons, List.map_nil, List.mem_singleton] at hb'
          subst hb'
          simp only [Row.val, Value.ownBlock, Option.some.injEq] at e5
          obtain ⟨x, hx, rfl⟩ := List.mem_map.1 ha
          rcases e5 with e5 | e5
          · cases r with
            | nil => simp at e5
            | «at» g cap rr =>
              simp only [Option.some.injEq] at e5
              rw [e5]
              exact hne.2.2 _ ha _ (by simp [Row.mem])
          · rw [e5]
            have := st.has.lt (List.mem_append_left _ hx)
            omega
      · simp only [List.mem_append] at hx
        rcases hx with hx | hx
        · exact hkeep x hx
        · exact hm' x hx
    · refine ⟨e3.os.trans st.evo.os, e3.tape.trans st.evo.tape, e3.output.trans st.evo.output, Nat.le_trans st.evo.size e3.size, fun k hk hs' => ?_⟩
      have := st.evo.size
      rw [e3.block k (by omega) ?_]
      · exact st.evo.block k hk hs'
      · cases r with
        | nil => simp [Row.val, Value.ownBlock]
        | «at» g cap rr =>
          simp only [Row.val, Value.ownBlock, ne_eq, Option.some.injEq]
          rintro rfl
          rcases hS with hS | hS
          · exact hs' hS
          · omega
    · cases r' with
      | nil => trivial
      | «at» g' cap' rr' =>
        simp only [Row.val, Value.ownBlock, Option.some.injEq] at e5
        rcases e5 with e5 | e5
        · cases r with
          | nil => simp at e5
          | «at» g cap rr =>
            simp only [Option.some.injEq] at e5
            subst e5
            exact hS
        · right
          have := st.evo.size
          omega
theorem jappendIn {dd : Nat} {x y : Operand} {t e size bytes n k cap cx i g : Nat} {ad : Addr} {c c' news : List Value} (hm : m[i]? = some (g, c, Bk.c e)) (hs : evF f x = some (.slice (some ⟨g, 0, none⟩) n cap)) (hx : evF f y = some (.slice (some ad) k cx)) (hsrc : Src X m (some ad) news)
    (hl : news.length = k * size) (h1 : ∀ u ∈ news, u.oneCell' = true) (hS : X.S g ∨ X.w0.heap.size ≤ g) (hg : growB P t e size bytes = true) (hn : n + k ≤ cap) (hc : (n + k) * size ≤ c.length) (hc' : c.take (n * size) ++ news ++ c.drop (n * size + k * size) = c') (hd : Nat.blt dd X.n = true)
    (h : J false X P ops Q K rest ((dd, .slice (some ⟨g, 0, none⟩) (n + k) cap) :: f) (setM m i c')) :
    J false X P ops Q K (⟨some dd, .call ⟨.builtin .append, #[x, y], #[t, t]⟩, ty, pos, af, none⟩ :: rest) f m := by
  subst hc'
  refine jeff (ι := Unit) (v := fun _ => .slice (some ⟨g, 0, none⟩) (n + k) cap) (m' := fun _ => setM m i (c.take (n * size) ++ news ++ c.drop (n * size + k * size))) (fun _ => True) rfl hd (fun a w st => ?_) (fun _ _ => h)
  obtain ⟨hu, inf, z, q1, q2, q3, q4, q5⟩ := growB_eq hg
  subst q3
  have hsrc' := hsrc w ⟨st.has, st.evo⟩
  have e1 := run_append_room (P := P) w t ty e inf hu q1 g n cap c.toArray (st.has.at hm) ad k cx news hl (fun j u hj => by obtain ⟨ad', e, hc⟩ := hsrc' j u hj; cases e; exact hc) h1 hn (by rw [hl, ← Nat.add_mul]; simpa using hc)
  refine ⟨(), _, .inl ?_, setRow_has st.has hm, setRow_evo st.evo hS _, trivial⟩
  simp only [execOp, resolve, invoke, builtin, Sem.run_bind, Sem.run_pure, Result.andThen_ok, List.map_toArray, List.map_cons, List.map_nil, st.agr.eval hs, st.agr.eval hx, e1, hl]
end
end Go.Rx
namespace Go.Rx
open Go.RowKit
section
variable {X : Cx} {P : Program} {f : Fr} {m : Mem} {d : Option Tmp} {ty : TypeId} {pos : String} {af : Array Edge} {gd : Option (Nat × Bool)} {ops : Array Oper} {Q : Exit → Act → World → Prop} {K : Act → World → Prop} {rest : List Oper} {qt : Bool}
theorem run_slice_of {w : World} {t e z : Nat} (ht : P.underlying t = some (.slice e)) (hz : szB P e z = true) (a : Option Addr) (len cap : Nat) (lo hi mx : Option Value) {b : Nat × Nat × Nat} (hb : (Instr.sliceBounds true len cap lo hi mx).run P w = .ok b w) :
    (Instr.sliceAt t (.slice a len cap) lo hi mx).run P w = .ok (.slice (if b.2.2 = b.1 then a else a.map (·.add (b.1 * z))) (b.2.1 - b.1) (b.2.2 - b.1)) w := by
  obtain ⟨inf, hi', rfl⟩ := szB_eq hz
  simp [Instr.sliceAt, Instr.slice, run_underlying ht, hb, sizeOf, typeInfo, hi', Result.andThen]
theorem yslH {x h : Operand} {t e z len cap : Nat} {a : Option Addr} {k : IntKind} {j : Int} {n : Nat} (hx : evF f x = some (.slice a len cap)) (hh : evF f h = some (.int k j)) (ht : P.underlying t = some (.slice e)) (hz : szB P e z = true) (hj : j = (n : Nat)) (hn : n ≤ cap) :
    Yl X P f m ⟨d, .slice t x none (some h) none, ty, pos, af, gd⟩ (.slice a n cap) := .of fun ac w st => by
  subst hj
  have := run_slice_of (P := P) (w := w) ht hz a len cap none (some (.int k (n : Nat))) none (b := (0, n, cap)) (by
    simp [Instr.sliceBounds, Instr.sliceBound, asIntOf, hn, Result.andThen])
  simp [execOp, st.agr.eval hx, st.agr.eval hh, this]
  intro _
  cases a <;> simp [add_zero]
theorem yslL {x l : Operand} {t e z len cap : Nat} {a b : Option Addr} {k : IntKind} {j : Int} {n : Nat} (hx : evF f x = some (.slice a len cap)) (hl : evF f l = some (.int k j)) (ht : P.underlying t = some (.slice e)) (hz : szB P e z = true) (hj : j = (n : Nat)) (hn : n ≤ len) (hb : (if cap = n then a else a.map (·.add (n * z))) = b) {kk cc : Nat} (hk : len - n = kk) (hc : cap - n = cc) :
    Yl X P f m ⟨d, .slice t x (some l) none none, ty, pos, af, gd⟩ (.slice b kk cc) := .of fun ac w st => by
  subst hk
  subst hc
  subst hj
  subst hb
  have := run_slice_of (P := P) (w := w) ht hz a len cap (some (.int k (n : Nat))) none none (b := (n, len, cap)) (by
    simp [Instr.sliceBounds, Instr.sliceBound, asIntOf, hn, Result.andThen])
  simp [execOp, st.agr.eval hx, st.agr.eval hl, this]
theorem yslLH {x l h : Operand} {t e z len cap : Nat} {a b : Option Addr} {k k' : IntKind} {i j : Int} {n n' : Nat} (hx : evF f x = some (.slice a len cap)) (hl : evF f l = some (.int k i)) (hh : evF f h = some (.int k' j)) (ht : P.underlying t = some (.slice e)) (hz : szB P e z = true) (hi : i = (n : Nat)) (hj : j = (n' : Nat)) (hn : n ≤ n') (hn' : n' ≤ cap) (hb : (if cap = n then a else a.map (·.add (n * z))) = b) {kk cc : Nat} (hk : n' - n = kk) (hc : cap - n = cc) :
    Yl X P f m ⟨d, .slice t x (some l) (some h) none, ty, pos, af, gd⟩ (.slice b kk cc) := .of fun ac w st => by
  subst hk
  subst hc
  subst hi
  subst hj
  subst hb
  have := run_slice_of (P := P) (w := w) ht hz a len cap (some (.int k (n : Nat))) (some (.int k' (n' : Nat))) none (b := (n, n', cap)) (by
    simp [Instr.sliceBounds, Instr.sliceBound, asIntOf, hn, hn', Result.andThen])
  simp [execOp, st.agr.eval hx, st.agr.eval hl, st.agr.eval hh, this]
theorem jbox {dd : Nat} {x : Operand} {t : Nat} {v : Value} {c : List Value} (hx : evF f x = some v) (hc : v.cells = c.toArray) (hd : Nat.blt dd X.n = true)
    (h : ∀ g, X.w0.heap.size ≤ g → J false X P ops Q K rest ((dd, .pointer (some ⟨g, 0, none⟩)) :: f) ((g, c, t) :: m)) : J false X P ops Q K (⟨some dd, .box t x, ty, pos, af, none⟩ :: rest) f m := by
  refine jeff (ι := Nat) (v := fun g => .pointer (some ⟨g, 0, none⟩)) (m' := fun g => (g, c, t) :: m) (fun g => X.w0.heap.size ≤ g) rfl hd (fun a w st => ⟨w.heap.size, w.alloc (.cells c.toArray t), .inl ?_, st.has.push _ _, st.evo.push _, st.evo.size⟩) (fun g hg => h g hg)
  simp [execOp, st.agr.eval hx, Instr.box, newVar, newRow, hc]
theorem ymakeFunc {fn : Fn} {fs cs : List Operand} {vs us : List Value} (hv : callF f fs = some vs) (hu : callF f cs = some us) : Yl X P f m ⟨d, .makeFunc fn fs.toArray cs.toArray, ty, pos, af, gd⟩ (.func fn vs.toArray us.toArray) := .of fun a w st => by
  have h1 := callF_eval st.agr fs hv
  have h2 := callF_eval st.agr cs hu
  simp [execOp, Instr.makeFunc, h1, h2]
theorem run_callC {a : Act} {k : Nat} {c : Operand} {as0 : List Operand} {tys : Array TypeId} {vs us : List Value} {w : World}
    (hb : bodyB P k = true) (ha : Agr X.n X.D f a) (hc : evF f c = some (.func (.func k) #[] us.toArray)) (hv : callF f as0 = some vs) :
    (execOp a.eval ⟨d, .call ⟨.value c, as0.toArray, tys⟩, ty, pos, af, gd⟩).run P w = .ok (.enter k (vs ++ us).toArray) w := by
  have hm := callF_eval ha as0 hv
  have he := ha.eval hc
  unfold bodyB at hb
  cases hf : P.funcs[k]? with
  | none => simp [hf] at hb
  | some fn =>
    simp only [hf, Bool.and_eq_true, Bool.not_eq_true', beq_eq_false_iff_ne] at hb
    obtain ⟨h1, h2⟩ := hb
    have h3 : fn.body.isNone = false := by cases h : fn.body <;> simp [h] at h1 ⊢
    simp [execOp, resolve, Deferred.ofValue, invoke, callFunc, he, Sem.run_bind, program, Sem.run, hf, hm, pure]
    rw [if_neg (by simpa using h2), if_neg (by intro e; rw [e] at h3; cases h3)]
theorem jcallC {k : Nat} {c : Operand} {as0 : List Operand} {tys : Array TypeId} {dd : Nat} {vs us : List Value} {ι : Sort _} {v : ι → Value} {m' : ι → Mem} (p : ι → Prop)
    (hf : evF f c = some (.func (.func k) #[] us.toArray)) (hb : bodyB P k = true) (hw : wantedF ops f ⟨some dd, .call ⟨.value c, as0.toArray, tys⟩, ty, pos, af, gd⟩ = some true) (hd : Nat.blt dd X.n = true) (hv : callF f as0 = some vs)
    (hc : ∀ w, Cl X m w → Calls P k (vs ++ us).toArray w fun e w' => ∃ i, e = .returned (v i) ∧ Cl X (m' i) w' ∧ p i)
    (h : ∀ i, p i → J false X P ops Q K rest ((dd, v i) :: f) (m' i)) : J false X P ops Q K (⟨some dd, .call ⟨.value c, as0.toArray, tys⟩, ty, pos, af, gd⟩ :: rest) f m := by
  refine ⟨fun a w s => ?_⟩
  have hw' := wanted_of hw s.agr
  unfold wpList
  rw [if_pos hw']
  refine .inl ?_
  unfold Oper.wp
  rw [run_callC hb s.agr hf hv]
  refine (hc w ⟨s.has, s.evo⟩).mono ?_
  rintro e w' ⟨i, rfl, ⟨hh, he⟩, hp⟩
  exact (h i hp).out _ _ ⟨s.agr.put (d := some dd) (dst_of (o := ⟨some dd, .call ⟨.value c, as0.toArray, tys⟩, ty, pos, af, gd⟩) hd) _, hh, he⟩
end
end Go.Rx
namespace Go.Rx
open Go.RowKit
def Cx.sub (X : Cx) (n : Nat) (w : World) : Cx := ⟨n, [], fun k => X.S k ∨ X.w0.heap.size ≤ k, w⟩
theorem Cl.up {X : Cx} {m m' : Mem} {n : Nat} {w w' : World} (h : Cl X m w) (h' : Cl (X.sub n w) m' w') : Cl X m' w' := by
  refine ⟨h'.1, h'.2.os.trans h.2.os, h'.2.tape.trans h.2.tape, h'.2.output.trans h.2.output, Nat.le_trans h.2.size h'.2.size, fun k hk hs => ?_⟩
  have h1 := h.2.size
  have h2 := h'.2.block k (show k < w.heap.size by omega) (fun hc => by rcases hc with hc | hc; exact hs hc; omega)
  exact h2.trans (h.2.block k hk hs)
theorem Cl.less {X : Cx} {m m' : Mem} {w : World} (h : Cl X m w) (hs : List.Sublist m' m) : Cl X m' w := ⟨h.1.sub hs, h.2⟩
theorem Cl.perm {X : Cx} {m m' : Mem} {w : World} (h : Cl X m w) (hp : m.Perm m') : Cl X m' w := ⟨h.1.perm hp, h.2⟩
def Cx.may (X : Cx) (g : Nat) : Prop := X.S g ∨ X.w0.heap.size ≤ g
theorem Cx.may_sub {X : Cx} {n : Nat} {w : World} {g : Nat} (h : X.may g) : (X.sub n w).may g := .inl h
theorem Cx.may_up {X : Cx} {m : Mem} {n : Nat} {w : World} {g : Nat} (hw : Cl X m w) (h : (X.sub n w).may g) : X.may g := by
  rcases h with h | h
  · exact h
  · right
    have := hw.2.size
    have h : w.heap.size ≤ g := h
    omega
theorem Row.may_sub {X : Cx} {n : Nat} {w : World} {r : Row} (h : r.may X) : r.may (X.sub n w) := by
  cases r with
  | nil => trivial
  | «at» g c rr => exact Cx.may_sub h
theorem Row.may_up {X : Cx} {m : Mem} {n : Nat} {w : World} {r : Row} (hw : Cl X m w) (h : r.may (X.sub n w)) : r.may X := by
  cases r with
  | nil => trivial
  | «at» g c rr => exact Cx.may_up hw h
theorem enterC {P : Program} {k : Nat} {fn : Func} {c : Code} {vs : List Value} {w : World} {X : Cx} {m : Mem} {R : Ending → World → Prop} (n : Nat) (hw : Cl X m w) (hf : P.funcs[k]? = some fn) (hb : fn.body = some c) (hn : fn.ntmps = n) (hl : Nat.ble vs.length n = true)
    (h : PJ (X.sub n w) (c.wp P (bodyPost P fn R)) (args0 0 vs) m) : Calls P k vs.toArray w R := enter _ n m hf hb hn hl hw.1 h
section
variable {X : Cx} {P : Program} {f : Fr} {m : Mem} {d : Option Tmp} {ty : TypeId} {pos : String} {af : Array Edge} {gd : Option (Nat × Bool)} {ops : Array Oper} {Q : Exit → Act → World → Prop} {K : Act → World → Prop} {rest : List Oper} {qt : Bool}
theorem jappendP {dd : Nat} {x y : Operand} {t e size bytes n k cx B : Nat} {A : Option Addr} {xs news : List Value} {r : Row} (m0 : Mem) (mm : Row → Mem) (hm : m.Perm (m0 ++ r.mem xs e)) (hmm : ∀ r' : Row, (m0 ++ r'.mem (xs ++ news) e).Perm (mm r')) (hs : evF f x = some (r.val n)) (hx : evF f y = some (.slice A k cx)) (hsrc : Src X m A news)
    (hl : news.length = k * size) (h1 : ∀ u ∈ news, u.oneCell' = true) (hr : r.ok B size n xs) (hB : B ≤ X.w0.heap.size) (hS : r.may X) (hg : growB P t e size bytes = true) (h0 : 0 < size) (hn : n + k ≤ maxLen) (hb : (n + k) * bytes ≤ 140737488355328) (hd : Nat.blt dd X.n = true)
    (h : ∀ r' : Row, r'.ok B size (n + k) (xs ++ news) → r'.may X → J false X P ops Q K rest ((dd, r'.val (n + k)) :: f) (mm r')) :
    J false X P ops Q K (⟨some dd, .call ⟨.builtin .append, #[x, y], #[t, t]⟩, ty, pos, af, none⟩ :: rest) f m :=
  jperm hm (jappendX m0 rfl hs hx (fun w hw => hsrc w ⟨hw.1.perm hm.symm, hw.2⟩) hl h1 hr hB hS hg h0 hn hb hd fun r' h1 h2 => jperm (hmm r') (h r' h1 h2))
theorem jless {m' : Mem} (hm : List.Sublist m' m) (h : J false X P ops Q K rest f m') : J false X P ops Q K rest f m := ⟨fun a w s => h.out a w ⟨s.agr, s.has.sub hm, s.evo⟩⟩
end
theorem finS {X : Cx} {q : Act → World → Prop} {f f' : Fr} {m m' : Mem} (h : PJ X q f' m') (hs : Sub f f') (hm : List.Sublist m' m) : PJ X q f m := less hs.all hm h
theorem perm_row (a : Mem) (b c : Mem) : (a ++ (b ++ c)).Perm ((a ++ c) ++ b) := by
  rw [List.append_assoc]
  exact List.Perm.append_left a List.perm_append_comm
end Go.Rx
namespace Go.Rx
open Go.RowKit
def RowAt (S : Nat → Prop) (w : World) (v : Value) (n : Nat) (l : List Value) : Prop := ∃ A c, v = .slice A n c ∧ ∀ (j : Nat) u, l[j]? = some u → ∃ ad, A = some ad ∧ ¬ S ad.block ∧ w.cell? (ad.add j) = some u
theorem RowAt.evo {S S' : Nat → Prop} {w w' : World} {v : Value} {n : Nat} {l : List Value} (h : RowAt S w v n l) (he : Evo S w w') (hs : ∀ b, b < w.heap.size → S' b → S b) : RowAt S' w' v n l := by
  obtain ⟨A, c, e, h⟩ := h
  refine ⟨A, c, e, fun j u hj => ?_⟩
  obtain ⟨ad, h1, h2, h3⟩ := h j u hj
  have hlt : ad.block < w.heap.size := by
    rcases Nat.lt_or_ge ad.block w.heap.size with h | h
    · exact h
    · have : (ad.add j).block = ad.block := add_block _ _
      simp [World.cell?, this, Array.getElem?_eq_none h] at h3
  exact ⟨ad, h1, fun hc => h2 (hs _ hlt hc), cell_evo he (by rw [add_block]; exact h2) h3⟩
theorem RowAt.weak {S S' : Nat → Prop} {w : World} {v : Value} {n : Nat} {l : List Value} (h : RowAt S w v n l) (hs : ∀ b, b < w.heap.size → S' b → S b) : RowAt S' w v n l := h.evo (Evo.refl _ _) hs
theorem RowAt.nil (S : Nat → Prop) (w : World) : RowAt S w (.slice none 0 0) 0 [] := ⟨none, 0, rfl, fun j u h => by simp at h⟩
def Row.blk : Row → Nat → Prop
  | .nil, _ => False
  | .at g _ _, b => b = g
theorem RowAt.of {S : Nat → Prop} {m : Mem} {w : World} {r : Row} {n B size : Nat} {xs : List Value} {e : TypeId} (hw : Has m w) (hm : ∀ x ∈ r.mem xs e, x ∈ m) (hok : r.ok B size n xs) (hS : ∀ b, r.blk b → ¬ S b) : RowAt S w (r.val n) n xs := by
  cases r with
  | nil =>
    obtain ⟨h1, h2⟩ := hok
    subst h1
    subst h2
    exact RowAt.nil S w
  | «at» g cap rr =>
    refine ⟨some ⟨g, 0, none⟩, cap, rfl, fun j u hj => ⟨_, rfl, hS g rfl, ?_⟩⟩
    have hb : w.heap[g]? = some (.cells (xs ++ rr).toArray e (0, 0)) := hw.blk (g, xs ++ rr, e) (hm _ (by simp [Row.mem]))
    rw [add_lit]
    simp only [World.cell?, hb]
    rw [List.getElem?_toArray, List.getElem?_append_left (List.getElem?_eq_some_iff.1 hj).1, hj]
    simp
theorem Has.apart {m a b : Mem} {w : World} (h : Has m w) (hp : m.Perm (a ++ b)) : ∀ x ∈ a, ∀ y ∈ b, x.1 ≠ y.1 := by
  have h1 := (hp.map (·.1)).nodup_iff.1 h.ne
  rw [List.map_append, List.nodup_append] at h1
  exact fun x hx y hy => h1.2.2 _ (List.mem_map_of_mem hx) _ (List.mem_map_of_mem hy)
def seqAt (k : Nat) : Code → Option Code
  | .seq (.region i o q) y => bif Nat.beq i k then some (.seq (.region i o q) y) else seqAt k y
  | .seq x y => match seqAt k x with
    | some c => some c
    | none => seqAt k y
  | .cond _ x y => match seqAt k x with
    | some c => some c
    | none => seqAt k y
  | .block _ c => seqAt k c
  | .loop c => seqAt k c
  | .scope c => seqAt k c
  | _ => none
def codeAt (fn : Func) (k : Nat) : Code := ((fn.body.bind (seqAt k))).getD .skip
section
variable {X : Cx} {P : Program} {f : Fr} {m : Mem} {d : Option Tmp} {ty : TypeId} {pos : String} {af : Array Edge} {gd : Option (Nat × Bool)} {ops : Array Oper} {Q : Exit → Act → World → Prop} {K : Act → World → Prop} {rest : List Oper} {qt : Bool}
end
theorem yfieldA {X : Cx} {P : Program} {f : Fr} {m : Mem} {ty : TypeId} {pos : String} {af : Array Edge} {gd : Option (Nat × Bool)} {d : Option Tmp} {x : Operand} {s i e : Nat} {p p' : Addr} (hx : evF f x = some (.pointer (some p))) (hf : fieldB P s i = some e) (ho : p.add e = p') : Yl X P f m ⟨d, .fieldAddr s x i, ty, pos, af, gd⟩ (.pointer (some p')) := .of fun a w st => by
  subst ho
  unfold fieldB at hf
  split at hf
  · rename_i fs hu
    split at hf
    · rename_i fl hfl
      split at hf
      · rename_i inf hi
        simp only [cond_eq_ite, Nat.beq_eq] at hf
        split at hf
        · cases hf
        · rename_i hz
          obtain rfl := Option.some.inj hf
          simp [execOp, st.agr.eval hx, Instr.fieldAt, run_underlying hu, hfl, Instr.sureAddr, fieldPlace, sizeOf, typeInfo, hi, hz]
      · cases hf
    · cases hf
  · cases hf
end Go.Rx
namespace Go.Rx
open Go.RowKit
theorem jcallR {X : Cx} {P : Program} {ops : Array Oper} {Q : Exit → Act → World → Prop} {K : Act → World → Prop} {rest : List Oper} {f : Fr} {m : Mem} {k : Nat} {as_ : List Operand} {tys : Array TypeId} {d : Nat} {ty : TypeId} {pos : String} {af : Array Edge} {gd : Option (Nat × Bool)} {vs : List Value} {m' : Mem} (S' : Nat → Prop) (R : Value → World → Prop)
    (hb : bodyB P k = true) (hw : wantedF ops f ⟨some d, .call ⟨.value (.func k), as_.toArray, tys⟩, ty, pos, af, gd⟩ = some true) (hd : Nat.blt d X.n = true) (hv : callF f as_ = some vs)
    (hc : ∀ w, Cl X m w → Calls P k vs.toArray w fun e w' => ∃ v, e = .returned v ∧ Cl X m' w' ∧ R v w')
    (h : ∀ v w1, R v w1 → Has m' w1 → Evo X.S X.w0 w1 → J false ⟨X.n, X.D, S', w1⟩ P ops Q K rest ((d, v) :: f) m') : J false X P ops Q K (⟨some d, .call ⟨.value (.func k), as_.toArray, tys⟩, ty, pos, af, gd⟩ :: rest) f m := by
  refine ⟨fun a w s => ?_⟩
  have hw' := wanted_of hw s.agr
  unfold wpList
  rw [if_pos hw']
  refine .inl ?_
  unfold Oper.wp
  rw [run_call hb s.agr hv]
  refine (hc w ⟨s.has, s.evo⟩).mono ?_
  rintro e w' ⟨v, rfl, ⟨hh, he⟩, hR⟩
  exact (h v w' hR hh he).out _ _ ⟨s.agr.put (d := some d) (dst_of (o := ⟨some d, .call ⟨.value (.func k), as_.toArray, tys⟩, ty, pos, af, gd⟩) hd) _, hh, Evo.refl _ _⟩
section
variable {X : Cx} {P : Program} {f : Fr} {m : Mem} {d : Option Tmp} {ty : TypeId} {pos : String} {af : Array Edge} {gd : Option (Nat × Bool)}
theorem ybeq {x y : Operand} {b b' c : Bool} {t t' : TypeId} (hx : evF f x = some (.bool b)) (hy : evF f y = some (.bool b')) (ht : P.underlying t = some .bool) (hc : (b == b') = c) : Yl X P f m ⟨d, .binOp .eql t x y t', ty, pos, af, gd⟩ (.bool c) := .of fun a w st => by
  subst hc
  simp [execOp, st.agr.eval hx, st.agr.eval hy, binOp, eqGuard, run_equal_bool (P := P) (w := w) t b b' ht]
end
def nof : Nat → Prop := fun _ => False
theorem RowAt.take {S : Nat → Prop} {w : World} {A : Option Addr} {n c k : Nat} {l : List Value} (h : RowAt S w (.slice A n c) n l) : RowAt S w (.slice A k c) k (l.take k) := by
  obtain ⟨A', c', e, h⟩ := h
  cases e
  refine ⟨_, _, rfl, fun j u hj => h j u ?_⟩
  rw [List.getElem?_take] at hj
  split at hj
  · exact hj
  · cases hj
theorem RowAt.of_evo {S : Nat → Prop} {w w' : World} {v : Value} {n : Nat} {l : List Value} (h : RowAt nof w v n l) (he : Evo S w w') (hS : ∀ k, S k → False) : RowAt nof w' v n l := by
  refine RowAt.evo (S := S) (S' := nof) ?_ he (fun b _ h => h.elim)
  exact RowAt.weak h (fun b _ h => (hS b h).elim)
end Go.Rx
namespace Go.Rx
open Go.RowKit
def lst (n : Nat) (D : List Nat) : Array Bool := D.foldl (fun l i => l.setIfInBounds i true) (Array.replicate n false)
def pickB (ops : Array Oper) : List Nat → Array Bool → Bool
  | [], _ => true
  | i :: ks, l => (Region.ready .any ops l).contains i && Region.free .any ops l i && pickB ops ks (l.setIfInBounds i true)
def nthO : List Oper → Nat → Option Oper
  | [], _ => none
  | o :: _, 0 => some o
  | _ :: r, i + 1 => nthO r i
theorem nthO_eq : ∀ (l : List Oper) (i : Nat), nthO l i = l[i]?
  | [], i => by simp [nthO]
  | o :: r, 0 => by simp [nthO]
  | o :: r, i + 1 => by simp [nthO, nthO_eq r i]
def pickO (l : List Oper) : List Nat → Option (List Oper)
  | [] => some []
  | i :: ks => match pickO l ks with
    | some r => match nthO l i with
      | some o => some (o :: r)
      | none => none
    | none => none
def appO : List Nat → List Nat → Option (List Nat)
  | [], k => some k
  | x :: r, k => match appO r k with
    | some s => some (x :: s)
    | none => none
theorem appO_eq (k : List Nat) : ∀ (D : List Nat), appO D k = some (D ++ k)
  | [] => rfl
  | x :: r => by unfold appO; rw [appO_eq k r]; rfl
theorem appO_of {D k D' : List Nat} (h : appO D k = some D') : D ++ k = D' := by rw [appO_eq] at h; exact Option.some.inj h
def stl (P : Program) (ops : Array Oper) (S : World → Prop) (K : Act → World → Prop) : List Oper → Act → World → Prop
  | [], a, w => K a w
  | o :: r, a, w => ∃ v, YieldsIf P ops S o v a ∧ stl P ops S K r (a.put o.dst v) w
structure WAny (P : Program) (l : List Oper) (Q : Exit → Act → World → Prop) (X : Cx) (mS : Mem) (g : Nat) (D : List Nat) (a : Act) (w : World) : Prop where
  of :: out : wpAnyH P .any l.toArray Q (Cl X mS) g (lst l.length D) a w
structure WKeep (X : Cx) (mS : Mem) (W : Act → World → Prop) (a : Act) (w : World) : Prop where
  of :: (cl : Cl X mS w) (out : W a w)
structure WIf (X : Cx) (m : Mem) (W : Act → World → Prop) (a : Act) (w : World) : Prop where
  of :: out : Cl X m w → W a w
structure JT (qt : Bool) (X : Cx) (P : Program) (ops : Array Oper) (Q : Exit → Act → World → Prop) (K : Act → World → Prop) (l : List Oper) (f : Fr) (m : Mem) : Prop where
  of :: out : ∀ a w, St X f m a w → stl P ops (Cl X m) K l a w
section
variable {qt : Bool} {X : Cx} {P : Program} {ops : Array Oper} {Q : Exit → Act → World → Prop} {K : Act → World → Prop} {l rest : List Oper} {f : Fr} {m mS : Mem} {o : Oper}
theorem jtnil (h : PJ X K f m) : JT qt X P ops Q K [] f m := ⟨h.out⟩
theorem jty {d : Nat} {op : Op} {ty : TypeId} {pos : String} {af : Array Edge} {gd : Option (Nat × Bool)} {v : Value} (hy : Yl X P f m ⟨some d, op, ty, pos, af, gd⟩ v) (hw : wantedF ops f ⟨some d, op, ty, pos, af, gd⟩ = some true) (hd : Nat.blt d X.n = true)
    (h : JT qt X P ops Q K rest ((d, v) :: f) m) : JT qt X P ops Q K (⟨some d, op, ty, pos, af, gd⟩ :: rest) f m := by
  refine ⟨fun a w s => ⟨v, .inl ⟨wanted_of hw s.agr, fun w' hw' => hy.out a w' ⟨s.agr, hw'.1, hw'.2⟩⟩, ?_⟩⟩
  exact h.out _ _ ⟨s.agr.put (d := some d) (dst_of (o := ⟨some d, op, ty, pos, af, gd⟩) hd) _, s.has, s.evo⟩
theorem jts {d : Nat} {op : Op} {ty : TypeId} {pos : String} {af : Array Edge} {gd : Nat × Bool} (hw : wantedF ops f ⟨some d, op, ty, pos, af, some gd⟩ = some false) (hd : Nat.blt d X.n = true)
    (h : JT qt X P ops Q K rest ((d, undef) :: f) m) : JT qt X P ops Q K (⟨some d, op, ty, pos, af, some gd⟩ :: rest) f m := by
  refine ⟨fun a w s => ⟨undef, .inr ⟨wanted_of hw s.agr, rfl⟩, ?_⟩⟩
  exact h.out _ _ ⟨s.agr.put (d := some d) (dst_of (o := ⟨some d, op, ty, pos, af, some gd⟩) hd) _, s.has, s.evo⟩
theorem any_of_stl {S : World → Prop} {g : Nat} (hsel : Region.noSelect l.toArray = true) (hQ : ∀ c d v a w, Q (.panic c) (Act.put a d v) w → Q (.panic c) a w) :
    ∀ (ks D : List Nat) (os : List Oper) (a : Act) (w : World), pickO l ks = some os → pickB l.toArray ks (lst l.length D) = true → S w → stl P l.toArray S K os a w →
      (∀ a w, S w → K a w → wpAnyH P .any l.toArray Q S g (lst l.length (D ++ ks)) a w) → wpAnyH P .any l.toArray Q S (g + ks.length) (lst l.length D) a w := by
  intro ks
  induction ks with
  | nil =>
    intro D os a w ho _ hS h hK
    cases ho
    have := hK a w hS h
    simpa using this
  | cons i ks ih =>
    intro D os a w ho hB hS h hK
    simp only [pickO] at ho
    split at ho
    · rename_i r hr
      split at ho
      · rename_i o hn
        cases ho
        simp only [pickB, Bool.and_eq_true] at hB
        obtain ⟨v, hy, hrest⟩ := h
        have e1 : (lst l.length D).setIfInBounds i true = lst l.length (D ++ [i]) := by unfold lst; rw [List.foldl_append]; rfl
        have hi : l.toArray[i]? = some o := by rw [List.getElem?_toArray, ← nthO_eq]; exact hn
        refine wpAnyH_take hi hsel hB.1.2 hB.1.1 (fun c a w h => hQ c _ _ a w h) hy hS ?_
        rw [e1]
        refine ih (D ++ [i]) r _ w hr (by rw [← e1]; exact hB.2) hS hrest (fun a w hS hk => ?_)
        have := hK a w hS hk
        rwa [List.append_assoc]
      · cases ho
    · cases ho
theorem jaq {g g' : Nat} {D D' : List Nat} {os : List Oper} (ks : List Nat) (hD : appO D ks = some D') (hS : ∀ w, Cl X m w → Cl X mS w) (hsel : Region.noSelect l.toArray = true) (hB : pickB l.toArray ks (lst l.length D) = true) (hg : Nat.beq (g' + ks.length) g = true)
    (hQ : ∀ c d v a w, Q (.panic c) (Act.put a d v) w → Q (.panic c) a w) (ho : pickO l ks = some os)
    (h : JT true X P l.toArray Q (WIf X m (WAny P l Q X mS g' D')) os f mS) : PJ X (WAny P l Q X mS g D) f m := .of fun a w s => .of <| by
  obtain rfl := Nat.eq_of_beq_eq_true hg
  obtain rfl := appO_of hD
  have hm : Cl X m w := ⟨s.has, s.evo⟩
  have hm' := hS w hm
  have h1 : stl P l.toArray (Cl X mS) (fun a' w' => w' = w ∧ WIf X m (WAny P l Q X mS g' (D ++ ks)) a' w') os a w := by
    have key : ∀ (os : List Oper) (a : Act) (K : Act → World → Prop), stl P l.toArray (Cl X mS) K os a w → stl P l.toArray (Cl X mS) (fun a' w' => w' = w ∧ K a' w') os a w := by
      intro os
      induction os with
      | nil => intro a K h; exact ⟨rfl, h⟩
      | cons o r ih => intro a K h; obtain ⟨v, hy, hr⟩ := h; exact ⟨v, hy, ih _ K hr⟩
    exact key os a _ (h.out a w ⟨s.agr, hm'.1, hm'.2⟩)
  exact any_of_stl hsel hQ ks D os a w ho hB hm' h1 (fun a' w' _ hk => (hk.2.out (hk.1 ▸ hm)).out)
theorem jaw {W : Act → World → Prop} (h : PJ X W f m) : PJ X (WIf X m W) f mS := .of fun a w s => .of fun hw => h.out a w ⟨s.agr, hw.1, hw.2⟩
theorem upon_then {a : Act} {r : Result Next} {next : Act → World → Prop} : Oper.upon P o a next (Exit.then K Q) r → Oper.upon P o a next Q r := by
  intro h
  cases r with
  | ok n w =>
    cases n with
    | enter fn args =>
      refine Calls.mono (h : Calls ..) fun e w' he => ?_
      cases e <;> exact he
    | _ => exact h
  | halt x w =>
    cases x <;> exact h
theorem jop {i : Nat} (ho : nthO l i = some o) (h : J false X P l.toArray Q K [o] f m) : ∀ a w, St X f m a w → wpOp P l.toArray Q i K a w := fun a w s => by
  have hi : l.toArray[i]? = some o := by rw [List.getElem?_toArray, ← nthO_eq]; exact ho
  have h1 := h.out a w s
  unfold wpOp
  rw [hi]
  simp only
  unfold wpList at h1
  split
  · rename_i hw
    rw [if_pos hw] at h1
    rcases h1 with h1 | h1
    · exact .inl (upon_then h1)
    · exact .inr h1
  · rename_i hw
    rw [if_neg hw] at h1
    exact h1
theorem ja1 {g g' : Nat} {D D' : List Nat} (i : Nat) (hD : appO D [i] = some D') (hg : Nat.beq (g' + 1) g = true) (hr : Region.ready .any l.toArray (lst l.length D) = [i]) (ho : nthO l i = some o)
    (h : J false X P l.toArray Q (WKeep X mS (WAny P l Q X mS g' D')) [o] f m) : PJ X (WAny P l Q X mS g D) f m := .of fun a w s => .of <| by
  obtain rfl := Nat.eq_of_beq_eq_true hg
  obtain rfl := appO_of hD
  refine wpAnyH_all hr (by simp) fun j hj => ?_
  obtain rfl : j = i := by simpa using hj
  refine wpOp_mono (fun a' w' h3 => ⟨h3.cl, ?_⟩) (jop ho h a w s)
  have := h3.out.out
  unfold lst at this ⊢
  rwa [List.foldl_append] at this
theorem ja2 {g g' : Nat} {D D' D'' : List Nat} {o' : Oper} (i i' : Nat) (hD : appO D [i] = some D') (hD' : appO D [i'] = some D'') (hg : Nat.beq (g' + 1) g = true) (hr : Region.ready .any l.toArray (lst l.length D) = [i, i']) (ho : nthO l i = some o) (ho' : nthO l i' = some o')
    (h : J false X P l.toArray Q (WKeep X mS (WAny P l Q X mS g' D')) [o] f m)
    (h' : J false X P l.toArray Q (WKeep X mS (WAny P l Q X mS g' D'')) [o'] f m) : PJ X (WAny P l Q X mS g D) f m := .of fun a w s => .of <| by
  obtain rfl := Nat.eq_of_beq_eq_true hg
  obtain rfl := appO_of hD
  obtain rfl := appO_of hD'
  refine wpAnyH_all hr (by simp) fun j hj => ?_
  have e : j = i ∨ j = i' := by simpa using hj
  rcases e with rfl | rfl
  · refine wpOp_mono (fun a' w' h3 => ⟨h3.cl, ?_⟩) (jop ho h a w s)
    have := h3.out.out
    unfold lst at this ⊢
    rwa [List.foldl_append] at this
  · refine wpOp_mono (fun a' w' h3 => ⟨h3.cl, ?_⟩) (jop ho' h' a w s)
    have := h3.out.out
    unfold lst at this ⊢
    rwa [List.foldl_append] at this
theorem jas {W : Act → World → Prop} (hS : ∀ w, Cl X m w → Cl X mS w) (h : PJ X W f m) : PJ X (WKeep X mS W) f m := .of fun a w s => ⟨hS w ⟨s.has, s.evo⟩, h.out a w s⟩
theorem jadone {g : Nat} {D : List Nat} (hg : Nat.beq g 0 = true) (hr : Region.ready .any l.toArray (lst l.length D) = []) (h : PJ X (Q .normal) f m) : PJ X (WAny P l Q X mS g D) f m := .of fun a w s => .of (wpAnyH_done hr (h.out a w s) g)
theorem rany {id : Nat} (mS : Mem) (hm : P.follows .mixedOrders = true) (h : PJ X (WAny P l Q X mS l.length []) f m) : PJ X ((Code.region id l.toArray true).wp P Q) f m := .of fun a w s =>
  wp_region_held (S := Cl X mS) hm (h.out a _ ⟨s.agr, s.has.drawn _, s.evo.drawn _⟩).out
end
end Go.Rx
namespace Go.Rx
open Go.RowKit
theorem Has.pushO {m : Mem} {w : World} (h : Has m w) (c : List Value) (k : Bk) (o : Obj) (hk : ∀ w' : World, w'.heap[w.heap.size]? = some o → BlkAt w' w.heap.size c k) : Has ((w.heap.size, c, k) :: m) (w.alloc o) := by
  refine ⟨?_, fun x hx => ?_⟩
  · simp only [List.map_cons, List.nodup_cons]
    refine ⟨fun hc => ?_, h.ne⟩
    obtain ⟨x, hx, e⟩ := List.mem_map.1 hc
    have := h.lt hx
    omega
  · simp only [List.mem_cons] at hx
    rcases hx with rfl | hx
    · exact hk _ (heap_alloc_new w _)
    · exact (h.blk x hx).eq (heap_alloc_old w _ (h.lt hx))
theorem drew_eq (w : World) : w.drew = { w with drawn := w.drawn + 1 } := by unfold World.drew; rfl
theorem cell_row {w : World} {g o j : Nat} {c : List Value} {t : TypeId} {fr : Nat × Nat} {v : Value} (h : w.heap[g]? = some (.cells c.toArray t fr)) (hv : c[o + j]? = some v) : w.cell? ((⟨g, o, none⟩ : Addr).add j) = some v := by
  have hadd : (⟨g, o, none⟩ : Addr).add j = ⟨g, o + j, none⟩ := by unfold Addr.add; split <;> simp_all
  rw [hadd]
  simp [World.cell?, h, hv]
section
variable {X : Cx} {P : Program} {f : Fr} {m : Mem} {d : Option Tmp} {ty : TypeId} {pos : String} {af : Array Edge} {gd : Option (Nat × Bool)}
variable {ops : Array Oper} {Q : Exit → Act → World → Prop} {K : Act → World → Prop} {rest : List Oper}
def bytesL (l : List UInt8) : List Value := l.map fun b => .int .u8 b.toNat
theorem jbytes {dd t t' e : Nat} {x : Operand} {s : ByteArray} (hx : evF f x = some (.string s)) (hs : P.underlying t = some .string) (ht : P.underlying t' = some (.slice e)) (he : P.underlying e = some (.int .u8)) (hd : Nat.blt dd X.n = true)
    (h : ∀ (g cap : Nat) (r : List Value), X.w0.heap.size ≤ g → s.size ≤ cap → J false X P ops Q K rest ((dd, .slice (some ⟨g, 0, none⟩) s.size cap) :: f) ((g, bytesL s.data.toList ++ r, Bk.r e) :: m)) : J false X P ops Q K (⟨some dd, .convert t t' x, ty, pos, af, none⟩ :: rest) f m := by
  refine jeff (ι := Nat × Nat × List Value) (v := fun q => .slice (some ⟨q.1, 0, none⟩) s.size q.2.1) (m' := fun q => (q.1, bytesL s.data.toList ++ q.2.2, Bk.r e) :: m) (fun q => X.w0.heap.size ≤ q.1 ∧ s.size ≤ q.2.1) rfl hd (fun a w st => ?_) (fun q hq => h q.1 q.2.1 q.2.2 hq.1 hq.2)
  have hr := run_bytes_of_string (P := P) w t t' e s hs ht he
  refine ⟨⟨w.heap.size, grownCap w s.size 0 e, List.replicate (grownCap w s.size 0 e - s.size) (.int .u8 0)⟩, w.drew.alloc (.cells (bytesRow s (grownCap w s.size 0 e)) e ((bytesRow s (grownCap w s.size 0 e)).size, (bytesRow s (grownCap w s.size 0 e)).size + 1)), .inl ?_, ?_, ?_, st.evo.size, ?_⟩
  · simp [execOp, st.agr.eval hx, hr]
  · have h1 := (st.has.drawn (w.drawn + 1))
    rw [← drew_eq] at h1
    refine h1.pushO _ _ _ (fun w' h => ⟨((bytesRow s (grownCap w s.size 0 e)).size, (bytesRow s (grownCap w s.size 0 e)).size + 1), ?_⟩)
    have e2 : (bytesL s.data.toList ++ List.replicate (grownCap w s.size 0 e - s.size) (Value.int .u8 0)).toArray = bytesRow s (grownCap w s.size 0 e) := by
      apply Array.toList_inj.1
      simp [bytesRow, bytesL]
    rw [e2]
    exact h
  · have h1 := st.evo.drawn (w.drawn + 1)
    rw [← drew_eq] at h1
    exact h1.push _
  · have := grownCap_ge w s.size 0 e
    omega
theorem Has.rcell {m : Mem} {w : World} (h : Has m w) {i g : Nat} {c : List Value} {t : TypeId} (hi : m[i]? = some (g, c, Bk.r t)) {o : Nat} {v : Value} (hv : nth c o = some v) : w.cell? ⟨g, o, none⟩ = some v := by
  obtain ⟨fr, h1⟩ := h.blk _ (List.mem_of_getElem? hi)
  rw [nth_eq] at hv
  simp [World.cell?, h1, hv]
theorem yloadr {x : Operand} {t g o i : Nat} {c : List Value} {tt : TypeId} {v : Value} (hx : evF f x = some (.pointer (some ⟨g, o, none⟩))) (hm : m[i]? = some (g, c, Bk.r tt)) (hv : nth c o = some v) (ht : oneB P t = true) :
    Yl X P f m ⟨d, .load t x, ty, pos, af, gd⟩ v := .of fun a w st => by
  simp [execOp, st.agr.eval hx, Instr.loadAt, Instr.sureAddr, run_loadVar_one ht (st.has.rcell hm hv)]
end
theorem yor {X : Cx} {P : Program} {f : Fr} {m : Mem} {ty : TypeId} {pos : String} {af : Array Edge} {gd : Option (Nat × Bool)} {d : Option Tmp} {x y : Operand} {k : IntKind} {i j c : Int} {t t' : TypeId} (hx : evF f x = some (.int k i)) (hy : evF f y = some (.int k j)) (hc : bits .or k i j = c) : Yl X P f m ⟨d, .binOp .or t x y t', ty, pos, af, gd⟩ (.int k c) := .of fun a w s => by
  subst hc
  simp [execOp, s.agr.eval hx, s.agr.eval hy, binOp, Op.intArith, Op.intBits, eqGuard, bits]
end Go.Rx
namespace Go.Rx
open Go.RowKit
/-! short words for what a step of a walk looks at -/
theorem jmv {qt : Bool} {X : Cx} {P : Program} {ops : Array Oper} {Q : Exit → Act → World → Prop} {K : Act → World → Prop} {ty : TypeId} {pos : String} {af : Array Edge} {gd : Option (Nat × Bool)} {rest : List Oper} {f : Fr} {m : Mem} {d : Nat} {x : Operand} {v : Value} (h : evF f x = some v) (hw : wantedF ops f ⟨some d, .move x, ty, pos, af, gd⟩ = some true) (hd : Nat.blt d X.n = true) (k : J qt X P ops Q K rest ((d, v) :: f) m) : J qt X P ops Q K (⟨some d, .move x, ty, pos, af, gd⟩ :: rest) f m := jy (ymove h) hw hd k
theorem jas_ {qt : Bool} {X : Cx} {P : Program} {ops : Array Oper} {Q : Exit → Act → World → Prop} {K : Act → World → Prop} {ty : TypeId} {pos : String} {af : Array Edge} {gd : Option (Nat × Bool)} {rest : List Oper} {f : Fr} {m : Mem} {d : Nat} {x : Operand} {v : Value} (h : evF f x = some v) (hw : wantedF ops f ⟨some d, .assign x, ty, pos, af, gd⟩ = some true) (hd : Nat.blt d X.n = true) (k : J qt X P ops Q K rest ((d, v) :: f) m) : J qt X P ops Q K (⟨some d, .assign x, ty, pos, af, gd⟩ :: rest) f m := jy (yassign h) hw hd k
abbrev Jo {qt : Bool} {X : Cx} {P : Program} {ops : Array Oper} {Q : Exit → Act → World → Prop} {K : Act → World → Prop} {ty : TypeId} {pos : String} {af : Array Edge} {gd : Option (Nat × Bool)} {rest : List Oper} {f : Fr} {m : Mem} (d : Option Tmp) (o : Op) : Prop := J qt X P ops Q K (⟨d, o, ty, pos, af, gd⟩ :: rest) f m
abbrev JTo {qt : Bool} {X : Cx} {P : Program} {ops : Array Oper} {Q : Exit → Act → World → Prop} {K : Act → World → Prop} {ty : TypeId} {pos : String} {af : Array Edge} {gd : Option (Nat × Bool)} {rest : List Oper} {f : Fr} {m : Mem} (d : Option Tmp) (o : Op) : Prop := JT qt X P ops Q K (⟨d, o, ty, pos, af, gd⟩ :: rest) f m
end Go.Rx
