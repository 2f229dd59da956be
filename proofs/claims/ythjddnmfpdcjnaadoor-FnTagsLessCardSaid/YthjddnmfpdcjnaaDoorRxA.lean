/- A small logic of walks over frames and memory of which only parts are known: its words and its rules; for every program. -/
import Derived.WalkKit
import Derived.Deep.Quiet
import Derived.StillTail
import Derived.Below
set_option linter.unusedVariables false
set_option linter.unusedSimpArgs false
namespace Go.Rx
open Go.RowKit

/-- w' is w, but for the blocks of S and new ones. -/
structure Evo (S : Nat → Prop) (w w' : World) : Prop where
  os : w'.os = w.os
  tape : w'.tape = w.tape
  output : w'.output = w.output
  size : w.heap.size ≤ w'.heap.size
  block : ∀ k, k < w.heap.size → ¬ S k → w'.heap[k]? = w.heap[k]?

theorem Evo.refl (S : Nat → Prop) (w : World) : Evo S w w := ⟨rfl, rfl, rfl, Nat.le_refl _, fun _ _ _ => rfl⟩
theorem Evo.trans {S : Nat → Prop} {a b c : World} (h : Evo S a b) (k : Evo S b c) : Evo S a c :=
  ⟨k.os.trans h.os, k.tape.trans h.tape, k.output.trans h.output, Nat.le_trans h.size k.size,
    fun i hi hs => (k.block i (Nat.lt_of_lt_of_le hi h.size) hs).trans (h.block i hi hs)⟩
theorem Evo.mono {S T : Nat → Prop} {a b : World} (h : Evo S a b) (hs : ∀ k, k < a.heap.size → S k → T k) : Evo T a b :=
  ⟨h.os, h.tape, h.output, h.size, fun k hk ht => h.block k hk (fun s => ht (hs k hk s))⟩
theorem Evo.of_below {S : Nat → Prop} {a b : World} (h : Below a.heap.size a b) : Evo S a b :=
  ⟨h.os, h.tape, h.output, h.size, fun k hk _ => h.block k hk⟩
theorem Evo.below {B : Nat} {S : Nat → Prop} {a b : World} (h : Evo S a b) (hs : ∀ k, k < B → ¬ S k) (hB : B ≤ a.heap.size) : Below B a b :=
  ⟨h.os, h.tape, h.output, h.size, fun k hk => h.block k (Nat.lt_of_lt_of_le hk hB) (hs k hk)⟩
theorem Evo.drawn {S : Nat → Prop} {a b : World} (n : Nat) (h : Evo S a b) : Evo S a { b with drawn := n } := ⟨h.os, h.tape, h.output, h.size, h.block⟩

abbrev Fr := List (Nat × Value)
def look : Fr → Nat → Option Value
  | [], _ => none
  | (i, v) :: r, j => bif Nat.beq i j then some v else look r j
def put (f : Fr) (d : Option Tmp) (v : Value) : Fr := match d with
  | some d => (d, v) :: f
  | none => f
def evF (f : Fr) : Operand → Option Value
  | .tmp t => look f t
  | .const v => some v
  | .global g => some (.pointer (some ⟨g, 0, none⟩))
  | .func k => some (.func (.func k) #[] #[])

/-- What is known of a frame: its size, its deferred calls, some slots. -/
structure Agr (n : Nat) (D : List Deferred) (f : Fr) (a : Act) : Prop where
  size : a.tmps.size = n
  defers : a.defers = D
  slot : ∀ j v, look f j = some v → j < n ∧ a.tmps.getD j undef = v

theorem Agr.eval {n : Nat} {D : List Deferred} {f : Fr} {a : Act} (h : Agr n D f a) {x : Operand} {v : Value} (hx : evF f x = some v) : a.eval x = v := by
  cases x with
  | tmp t => exact (h.slot t v hx).2
  | const u => exact Option.some.inj hx
  | global g => exact Option.some.inj hx
  | func k => exact Option.some.inj hx

theorem Agr.put {n : Nat} {D : List Deferred} {f : Fr} {a : Act} (h : Agr n D f a) {d : Option Tmp} (hd : ∀ t, d = some t → t < n) (v : Value) : Agr n D (put f d v) (a.put d v) := by
  cases d with
  | none => exact h
  | some d =>
    refine ⟨by simp [Act.put, h.size], h.defers, fun j u hj => ?_⟩
    simp only [Rx.put, look, cond_eq_ite, Nat.beq_eq] at hj
    by_cases e : d = j
    · subst e
      simp at hj
      have : d < a.tmps.size := by rw [h.size]; exact hd _ rfl
      exact ⟨hd _ rfl, by simp [Act.put, this, hj]⟩
    · rw [if_neg e] at hj
      have := h.slot j u hj
      refine ⟨this.1, ?_⟩
      have h2 := this.2
      simp only [Act.put, Array.getD_eq_getD_getElem?, Array.getElem?_setIfInBounds, if_neg e] at h2 ⊢
      exact h2
/-- Less is known. -/
theorem Agr.less {n : Nat} {D : List Deferred} {f f' : Fr} {a : Act} (h : Agr n D f a) (hf : f'.all (fun x => (look f x.1).isSome) = true) (hv : ∀ x ∈ f', look f x.1 = some x.2) : Agr n D f' a := by
  refine ⟨h.size, h.defers, fun j u hj => ?_⟩
  have key : ∀ l : Fr, look l j = some u → (j, u) ∈ l := by
    intro l
    induction l with
    | nil => intro h; cases h
    | cons x l ih =>
      intro h
      obtain ⟨i, v⟩ := x
      simp only [look, cond_eq_ite, Nat.beq_eq] at h
      by_cases e : i = j
      · rw [if_pos e] at h; subst e; rw [Option.some.inj h]; exact List.mem_cons_self
      · rw [if_neg e] at h; exact List.mem_cons_of_mem _ (ih h)
  exact h.slot j u (hv _ (key f' hj))

abbrev Mem := List (Nat × List Value × TypeId)
def nth : List Value → Nat → Option Value
  | [], _ => none
  | v :: _, 0 => some v
  | _ :: r, i + 1 => nth r i
theorem nth_eq (l : List Value) (i : Nat) : nth l i = l[i]? := by
  induction l generalizing i with
  | nil => rfl
  | cons v r ih => cases i with
    | zero => rfl
    | succ i => simp [nth, ih]
def setL : List Value → Nat → Value → List Value
  | [], _, _ => []
  | _ :: r, 0, u => u :: r
  | v :: r, i + 1, u => v :: setL r i u
theorem setL_eq (l : List Value) (i : Nat) (u : Value) : setL l i u = l.set i u := by
  induction l generalizing i with
  | nil => rfl
  | cons v r ih => cases i with
    | zero => rfl
    | succ i => simp [setL, ih]
/-- Blocks that are known whole; no two of them the same. -/
structure Has (m : Mem) (w : World) : Prop where
  ne : (m.map (·.1)).Nodup
  blk : ∀ x ∈ m, w.heap[x.1]? = some (.cells x.2.1.toArray x.2.2 (0, 0))

theorem Has.nil (w : World) : Has [] w := ⟨List.nodup_nil, by simp⟩
theorem Has.drawn {m : Mem} {w : World} (n : Nat) (h : Has m w) : Has m { w with drawn := n } := ⟨h.ne, h.blk⟩
theorem Has.at {m : Mem} {w : World} (h : Has m w) {i g : Nat} {c : List Value} {t : TypeId} (hi : m[i]? = some (g, c, t)) : w.heap[g]? = some (.cells c.toArray t (0, 0)) :=
  h.blk _ (List.mem_of_getElem? hi)
theorem Has.cell {m : Mem} {w : World} (h : Has m w) {i g : Nat} {c : List Value} {t : TypeId} (hi : m[i]? = some (g, c, t)) {o : Nat} {v : Value} (hv : nth c o = some v) : w.cell? ⟨g, o, none⟩ = some v := by
  rw [nth_eq] at hv
  simp [World.cell?, h.at hi, hv]
theorem Has.frozen {m : Mem} {w : World} (h : Has m w) {i g : Nat} {c : List Value} {t : TypeId} (hi : m[i]? = some (g, c, t)) (o : Nat) : w.frozen? ⟨g, o, none⟩ = false := by
  simp [World.frozen?, h.at hi]
theorem Has.lt {m : Mem} {w : World} (h : Has m w) {x : Nat × List Value × TypeId} (hx : x ∈ m) : x.1 < w.heap.size := by
  have := h.blk x hx
  exact (Array.getElem?_eq_some_iff.1 this).1
/-- Other blocks changed alone. -/
theorem Has.evo {m : Mem} {S : Nat → Prop} {w w' : World} (h : Has m w) (e : Evo S w w') (hs : ∀ x ∈ m, ¬ S x.1) : Has m w' :=
  ⟨h.ne, fun x hx => (e.block _ (h.lt hx) (hs x hx)).trans (h.blk x hx)⟩
theorem Has.below {m : Mem} {w w' : World} (h : Has m w) (e : Below w.heap.size w w') : Has m w' :=
  ⟨h.ne, fun x hx => (e.block _ (h.lt hx)).trans (h.blk x hx)⟩
theorem Has.sub {m m' : Mem} {w : World} (h : Has m w) (hs : List.Sublist m' m) : Has m' w :=
  ⟨(hs.map _).nodup h.ne, fun x hx => h.blk x (hs.subset hx)⟩

def setM : Mem → Nat → List Value → Mem
  | [], _, _ => []
  | (g, c, t) :: r, 0, c' => (g, c', t) :: r
  | x :: r, i + 1, c' => x :: setM r i c'
theorem setM_fst (m : Mem) (i : Nat) (c : List Value) : (setM m i c).map (·.1) = m.map (·.1) := by
  induction m generalizing i with
  | nil => rfl
  | cons x r ih =>
    obtain ⟨g, c0, t⟩ := x
    cases i with
    | zero => rfl
    | succ i => simp [setM, ih]
theorem setM_mem {m : Mem} {i : Nat} {c : List Value} {g : Nat} {c0 : List Value} {t : TypeId} (hi : m[i]? = some (g, c0, t)) (hn : (m.map (·.1)).Nodup) :
    ∀ x ∈ setM m i c, x = (g, c, t) ∨ (x ∈ m ∧ x.1 ≠ g) := by
  induction m generalizing i with
  | nil => intro x hx; cases hx
  | cons y r ih =>
    obtain ⟨g', c', t'⟩ := y
    simp only [List.map_cons, List.nodup_cons] at hn
    cases i with
    | zero =>
      simp only [List.getElem?_cons_zero, Option.some.injEq, Prod.mk.injEq] at hi
      obtain ⟨rfl, rfl, rfl⟩ := hi
      intro x hx
      simp only [setM, List.mem_cons] at hx
      rcases hx with rfl | hx
      · exact .inl rfl
      · refine .inr ⟨List.mem_cons_of_mem _ hx, fun e => hn.1 ?_⟩
        rw [← e]; exact List.mem_map_of_mem hx
    | succ i =>
      simp only [List.getElem?_cons_succ] at hi
      intro x hx
      simp only [setM, List.mem_cons] at hx
      rcases hx with rfl | hx
      · refine .inr ⟨List.mem_cons_self, fun e => hn.1 ?_⟩
        dsimp only at e; rw [e]
        exact List.mem_map_of_mem (f := (·.1)) (List.mem_of_getElem? hi)
      · rcases ih hi hn.2 x hx with h | ⟨h1, h2⟩
        · exact .inl h
        · exact .inr ⟨List.mem_cons_of_mem _ h1, h2⟩

theorem heap_setCell (w : World) (g o : Nat) (v : Value) (k : Nat) : (w.setCell ⟨g, o, none⟩ v).heap[k]? = if k = g then (w.heap[k]?).map (fun
      | .cells c elem frozen => .cells (c.setIfInBounds o v) elem frozen
      | o => o) else w.heap[k]? := by
  unfold World.setCell
  simp only [Array.getElem?_modify]
  by_cases e : g = k
  · subst e; rw [if_pos rfl, if_pos rfl]; congr 1
  · rw [if_neg e, if_neg (Ne.symm e)]
theorem Has.set {m : Mem} {w : World} (h : Has m w) {i g : Nat} {c : List Value} {t : TypeId} (hi : m[i]? = some (g, c, t)) (o : Nat) (v : Value) : Has (setM m i (setL c o v)) (w.setCell ⟨g, o, none⟩ v) := by
  refine ⟨by rw [setM_fst]; exact h.ne, fun x hx => ?_⟩
  rw [heap_setCell]
  rcases setM_mem hi h.ne x hx with rfl | ⟨hx, hne⟩
  · rw [if_pos rfl, h.at hi, setL_eq]; simp
  · rw [if_neg hne]; exact h.blk x hx
theorem Evo.set {S : Nat → Prop} {w0 w : World} (h : Evo S w0 w) {g : Nat} (hg : S g ∨ w0.heap.size ≤ g) (o : Nat) (v : Value) : Evo S w0 (w.setCell ⟨g, o, none⟩ v) := by
  refine ⟨h.os, h.tape, h.output, by unfold World.setCell; simpa using h.size, fun k hk hs => ?_⟩
  rw [heap_setCell, if_neg (by rintro rfl; rcases hg with hg | hg; exact hs hg; omega)]
  exact h.block k hk hs
theorem Has.push {m : Mem} {w : World} (h : Has m w) (c : List Value) (t : TypeId) : Has ((w.heap.size, c, t) :: m) (w.alloc (.cells c.toArray t)) := by
  refine ⟨?_, fun x hx => ?_⟩
  · simp only [List.map_cons, List.nodup_cons]
    refine ⟨fun hc => ?_, h.ne⟩
    obtain ⟨x, hx, e⟩ := List.mem_map.1 hc
    have := h.lt hx
    omega
  · simp only [List.mem_cons] at hx
    rcases hx with rfl | hx
    · exact heap_alloc_new w _
    · rw [heap_alloc_old w _ (h.lt hx)]
      exact h.blk x hx
theorem Evo.push {S : Nat → Prop} {w0 w : World} (h : Evo S w0 w) (o : Obj) : Evo S w0 (w.alloc o) := by
  refine ⟨h.os, h.tape, h.output, by have := h.size; simp; omega, fun k hk hs => ?_⟩
  have := h.size
  rw [heap_alloc_old w o (by omega)]
  exact h.block k hk hs

/-- What a walk is about: the frame's size, the deferred calls, the blocks that may change, the world at its beginning. -/
structure Cx where
  n : Nat
  D : List Deferred
  S : Nat → Prop
  w0 : World

structure St (X : Cx) (f : Fr) (m : Mem) (a : Act) (w : World) : Prop where
  agr : Agr X.n X.D f a
  has : Has m w
  evo : Evo X.S X.w0 w

/-- (A structure, so that no unification looks behind the name.) -/
structure PJ (X : Cx) (q : Act → World → Prop) (f : Fr) (m : Mem) : Prop where
  of :: out : ∀ a w, St X f m a w → q a w

section code
variable {P : Program} {X : Cx} {Q : Exit → Act → World → Prop} {K : Act → World → Prop} {f : Fr} {m : Mem}

theorem cseq {x y : Code} (h : PJ X (x.wp P (Exit.then (y.wp P Q) Q)) f m) : PJ X ((Code.seq x y).wp P Q) f m := .of fun a w s => wp_seq (h.out a w s)
theorem cblk {id : Nat} {c : Code} (h : PJ X (c.wp P (Exit.inBlock id Q)) f m) : PJ X ((Code.block id c).wp P Q) f m := .of fun a w s => wp_block (h.out a w s)
theorem cskip (h : PJ X (Q .normal) f m) : PJ X (Code.skip.wp P Q) f m := .of fun a w s => wp_skip (h.out a w s)
theorem cret (h : PJ X (Q .ret) f m) : PJ X (Code.ret.wp P Q) f m := .of fun a w s => wp_ret (h.out a w s)
theorem cexit {id : Nat} (h : PJ X (Q (.exit id)) f m) : PJ X ((Code.exit id).wp P Q) f m := .of fun a w s => wp_exit (h.out a w s)
theorem ctrue {c : Operand} {x y : Code} (hc : evF f c = some (.bool true)) (h : PJ X (x.wp P Q) f m) : PJ X ((Code.cond c x y).wp P Q) f m := .of fun a w s => wp_cond_true (s.agr.eval hc) (h.out a w s)
theorem cfalse {c : Operand} {x y : Code} (hc : evF f c = some (.bool false)) (h : PJ X (y.wp P Q) f m) : PJ X ((Code.cond c x y).wp P Q) f m := .of fun a w s => wp_cond_false (s.agr.eval hc) (h.out a w s)
theorem csplit {c : Operand} {x y : Code} {b : Bool} (hc : evF f c = some (.bool b)) (ht : b = true → PJ X (x.wp P Q) f m) (hf : b = false → PJ X (y.wp P Q) f m) : PJ X ((Code.cond c x y).wp P Q) f m :=
  .of fun a w s => wp_cond_split (s.agr.eval hc) (fun e => (ht e).out a w s) (fun e => (hf e).out a w s)
/-- Where a piece of code ends. -/
theorem tnorm (h : PJ X K f m) : PJ X (Exit.then K Q .normal) f m := .of h.out
theorem tret (h : PJ X (Q .ret) f m) : PJ X (Exit.then K Q .ret) f m := .of h.out
theorem texit {id : Nat} (h : PJ X (Q (.exit id)) f m) : PJ X (Exit.then K Q (.exit id)) f m := .of h.out
theorem bnorm {i : Nat} (h : PJ X (Q .normal) f m) : PJ X (Exit.inBlock i Q .normal) f m := .of h.out
theorem bret {i : Nat} (h : PJ X (Q .ret) f m) : PJ X (Exit.inBlock i Q .ret) f m := .of h.out
theorem bexit {i : Nat} (h : PJ X (Q .normal) f m) : PJ X (Exit.inBlock i Q (.exit i)) f m := .of fun a w s => by simpa [Exit.inBlock] using h.out a w s
theorem bother {i j : Nat} (hn : Nat.beq j i = false) (h : PJ X (Q (.exit j)) f m) : PJ X (Exit.inBlock i Q (.exit j)) f m := .of fun a w s => by
  have : ¬ j = i := by intro e; subst e; simp at hn
  simpa [Exit.inBlock, this] using h.out a w s
/-- Less is known. -/
theorem less {q : Act → World → Prop} {f' : Fr} {m' : Mem} (hv : ∀ x ∈ f', look f x.1 = some x.2) (hm : List.Sublist m' m) (h : PJ X q f' m') : PJ X q f m := .of fun a w s => by
  refine h.out a w ⟨s.agr.less ?_ hv, s.has.sub hm, s.evo⟩
  rw [List.all_eq_true]; intro x hx; rw [hv x hx]; rfl
theorem conv {q q' : Act → World → Prop} (h : ∀ a w, q a w → q' a w) (hq : PJ X q f m) : PJ X q' f m := .of fun a w s => h a w (hq.out a w s)
end code

end Go.Rx
