/- The small logic's rules for what single operations hand back; for every program. -/
import Derived.Test.YthjddnmfpdcjnaaDoorRxB
import Derived.Laws.DeepStrings4
set_option linter.unusedVariables false
set_option linter.unusedSimpArgs false
namespace Go.Rx
open Go.RowKit

section
variable {X : Cx} {P : Program} {f : Fr} {m : Mem} {d : Option Tmp} {ty : TypeId} {pos : String} {af : Array Edge} {gd : Option (Nat × Bool)}

theorem ymove {x : Operand} {v : Value} (hx : evF f x = some v) : Yl X P f m ⟨d, .move x, ty, pos, af, gd⟩ v := .of fun a w s => by
  simp [execOp, s.agr.eval hx]
theorem yassign {x : Operand} {v : Value} (hx : evF f x = some v) : Yl X P f m ⟨d, .assign x, ty, pos, af, gd⟩ v := .of fun a w s => by
  simp [execOp, s.agr.eval hx]
theorem ynil {x : Operand} {p : Addr} (hx : evF f x = some (.pointer (some p))) : Yl X P f m ⟨d, .nilCheck x, ty, pos, af, gd⟩ (.pointer (some p)) := .of fun a w s => by
  simp [execOp, s.agr.eval hx]
theorem ynilf {x : Operand} {k : Nat} {u v : Array Value} (hx : evF f x = some (.func (.func k) u v)) : Yl X P f m ⟨d, .nilCheck x, ty, pos, af, gd⟩ (.func (.func k) u v) := .of fun a w s => by
  simp [execOp, s.agr.eval hx]
theorem ypick1 {c x y : Operand} {v : Value} (hc : evF f c = some (.bool true)) (hx : evF f x = some v) : Yl X P f m ⟨d, .pick c x y, ty, pos, af, gd⟩ v := .of fun a w s => by
  simp [execOp, s.agr.eval hc, s.agr.eval hx, asBool]
theorem ypick0 {c x y : Operand} {v : Value} (hc : evF f c = some (.bool false)) (hx : evF f y = some v) : Yl X P f m ⟨d, .pick c x y, ty, pos, af, gd⟩ v := .of fun a w s => by
  simp [execOp, s.agr.eval hc, s.agr.eval hx, asBool]
theorem ynot {x : Operand} {b c : Bool} {ty' : TypeId} (hx : evF f x = some (.bool b)) (hc : (!b) = c) : Yl X P f m ⟨d, .unOp .not ty x, ty', pos, af, gd⟩ (.bool c) := .of fun a w s => by
  subst hc
  simp [execOp, s.agr.eval hx, Op.unary]
theorem yextract {x : Operand} {i : Nat} {vs : Array Value} {v : Value} (hx : evF f x = some (.tuple vs)) (hv : vs[i]? = some v) : Yl X P f m ⟨d, .extract x i, ty, pos, af, gd⟩ v := .of fun a w s => by
  simp [execOp, s.agr.eval hx, Instr.extract, hv]

/-! ### whole numbers -/
theorem yadd {x y : Operand} {k : IntKind} {i j c : Int} {t t' : TypeId} (hx : evF f x = some (.int k i)) (hy : evF f y = some (.int k j)) (hc : k.wrap (i + j) = c) : Yl X P f m ⟨d, .binOp .add t x y t', ty, pos, af, gd⟩ (.int k c) := .of fun a w s => by
  subst hc
  simp [execOp, s.agr.eval hx, s.agr.eval hy, binOp, Op.intArith, eqGuard]
theorem ysub {x y : Operand} {k : IntKind} {i j c : Int} {t t' : TypeId} (hx : evF f x = some (.int k i)) (hy : evF f y = some (.int k j)) (hc : k.wrap (i - j) = c) : Yl X P f m ⟨d, .binOp .sub t x y t', ty, pos, af, gd⟩ (.int k c) := .of fun a w s => by
  subst hc
  simp [execOp, s.agr.eval hx, s.agr.eval hy, binOp, Op.intArith, eqGuard]
theorem ymul {x y : Operand} {k : IntKind} {i j c : Int} {t t' : TypeId} (hx : evF f x = some (.int k i)) (hy : evF f y = some (.int k j)) (hc : k.wrap (i * j) = c) : Yl X P f m ⟨d, .binOp .mul t x y t', ty, pos, af, gd⟩ (.int k c) := .of fun a w s => by
  subst hc
  simp [execOp, s.agr.eval hx, s.agr.eval hy, binOp, Op.intArith, eqGuard]
theorem beqI (i j : Int) : (i == j) = decide (i = j) := by by_cases h : i = j <;> simp [h]
theorem bneI (i j : Int) : (i != j) = decide (i ≠ j) := by by_cases h : i = j <;> simp [h]
theorem eqG (op : BinOp) (t : TypeId) (x y : Operand) (k k' : IntKind) (i j : Int) : eqGuard op t x y (.int k i) (.int k' j) = pure () := by cases op <;> rfl
theorem ylss {x y : Operand} {k : IntKind} {i j : Int} {c : Bool} {t t' : TypeId} (hx : evF f x = some (.int k i)) (hy : evF f y = some (.int k j)) (hc : decide (i < j) = c) : Yl X P f m ⟨d, .binOp .lss t x y t', ty, pos, af, gd⟩ (.bool c) := .of fun a w s => by
  subst hc
  simp [execOp, s.agr.eval hx, s.agr.eval hy, binOp, Op.intCmp, eqG]
theorem yleq {x y : Operand} {k : IntKind} {i j : Int} {c : Bool} {t t' : TypeId} (hx : evF f x = some (.int k i)) (hy : evF f y = some (.int k j)) (hc : decide (i ≤ j) = c) : Yl X P f m ⟨d, .binOp .leq t x y t', ty, pos, af, gd⟩ (.bool c) := .of fun a w s => by
  subst hc
  simp [execOp, s.agr.eval hx, s.agr.eval hy, binOp, Op.intCmp, eqG]
theorem ygtr {x y : Operand} {k : IntKind} {i j : Int} {c : Bool} {t t' : TypeId} (hx : evF f x = some (.int k i)) (hy : evF f y = some (.int k j)) (hc : decide (j < i) = c) : Yl X P f m ⟨d, .binOp .gtr t x y t', ty, pos, af, gd⟩ (.bool c) := .of fun a w s => by
  subst hc
  simp [execOp, s.agr.eval hx, s.agr.eval hy, binOp, Op.intCmp, eqG]
theorem ygeq {x y : Operand} {k : IntKind} {i j : Int} {c : Bool} {t t' : TypeId} (hx : evF f x = some (.int k i)) (hy : evF f y = some (.int k j)) (hc : decide (j ≤ i) = c) : Yl X P f m ⟨d, .binOp .geq t x y t', ty, pos, af, gd⟩ (.bool c) := .of fun a w s => by
  subst hc
  simp [execOp, s.agr.eval hx, s.agr.eval hy, binOp, Op.intCmp, eqG]
theorem yeql {x y : Operand} {k : IntKind} {i j : Int} {c : Bool} {t t' : TypeId} (hx : evF f x = some (.int k i)) (hy : evF f y = some (.int k j)) (hc : decide (i = j) = c) : Yl X P f m ⟨d, .binOp .eql t x y t', ty, pos, af, gd⟩ (.bool c) := .of fun a w s => by
  subst hc
  simp [execOp, s.agr.eval hx, s.agr.eval hy, binOp, Op.intCmp, eqG, beqI]
theorem yneq {x y : Operand} {k : IntKind} {i j : Int} {c : Bool} {t t' : TypeId} (hx : evF f x = some (.int k i)) (hy : evF f y = some (.int k j)) (hc : decide (i ≠ j) = c) : Yl X P f m ⟨d, .binOp .neq t x y t', ty, pos, af, gd⟩ (.bool c) := .of fun a w s => by
  subst hc
  simp [execOp, s.agr.eval hx, s.agr.eval hy, binOp, Op.intCmp, eqG, bneI]
theorem yconvert {x : Operand} {k k' : IntKind} {i c : Int} {t t' : TypeId} (hx : evF f x = some (.int k i)) (hs : (P.underlying t).isSome = true) (ht : P.underlying t' = some (.int k')) (hc : k'.wrap i = c) :
    Yl X P f m ⟨d, .convert t t' x, ty, pos, af, gd⟩ (.int k' c) := .of fun a w s => by
  subst hc
  obtain ⟨d, hd⟩ := Option.isSome_iff_exists.mp hs
  simp [execOp, s.agr.eval hx, convert, run_underlying hd, run_underlying ht, Conv.intToInt]

/-! ### strings -/
def bt (s : ByteArray) (i : Int) : Int := if h : i.toNat < s.size then ((s[i.toNat]'h).toNat : Int) else 0
theorem yidx {x y : Operand} {s : ByteArray} {k : IntKind} {i c : Int} {t : TypeId} (hx : evF f x = some (.string s)) (hy : evF f y = some (.int k i)) (ht : P.underlying t = some .string) (h0 : 0 ≤ i) (h1 : i < s.size) (hc : bt s i = c) :
    Yl X P f m ⟨d, .index t x y, ty, pos, af, gd⟩ (.int .u8 c) := .of fun a w st => by
  subst hc
  have h2 : i.toNat < s.size := by omega
  simp [execOp, st.agr.eval hx, st.agr.eval hy, run_index_string w t s k i ht, h0, h1, bt, h2]
theorem yslice {x lo hi : Operand} {s r : ByteArray} {k k' : IntKind} {i j : Int} {t : TypeId} (hx : evF f x = some (.string s)) (hl : evF f lo = some (.int k i)) (hh : evF f hi = some (.int k' j)) (ht : P.underlying t = some .string)
    (h0 : 0 ≤ i) (h1 : i ≤ j) (h2 : j ≤ s.size) (hr : s.extract i.toNat j.toNat = r) :
    Yl X P f m ⟨d, .slice t x (some lo) (some hi) none, ty, pos, af, gd⟩ (.string r) := .of fun a w st => by
  subst hr
  have := run_slice_string (P := P) w t s k k' i j ht h0 h1 h2
  simp [execOp, st.agr.eval hx, st.agr.eval hl, st.agr.eval hh, run_sliceAt_string w t _ _ _ _ ht, this]
theorem ylens {x : Operand} {s : ByteArray} {t : TypeId} (hx : evF f x = some (.string s)) (ht : P.underlying t = some .string) :
    Yl X P f m ⟨d, .call ⟨.builtin .len, #[x], #[t]⟩, ty, pos, af, gd⟩ (.int .i64 s.size) := .of fun a w st => by
  simp [execOp, resolve, invoke, builtin, st.agr.eval hx, Builtin.len_, run_underlying ht, goInt]
theorem ylenl {x : Operand} {A : Option Addr} {n c : Nat} {t e : TypeId} (hx : evF f x = some (.slice A n c)) (ht : P.underlying t = some (.slice e)) :
    Yl X P f m ⟨d, .call ⟨.builtin .len, #[x], #[t]⟩, ty, pos, af, gd⟩ (.int .i64 n) := .of fun a w st => by
  simp [execOp, resolve, invoke, builtin, st.agr.eval hx, Builtin.len_, run_underlying ht, goInt]

/-! ### memory -/
def fieldB (P : Program) (s i : Nat) : Option Nat := match P.underlying s with
  | some (.struct fs) => match fs[i]? with
    | some fl => match P.info? fl.type with
      | some inf => bif Nat.beq inf.size 0 then none else some fl.offset
      | none => none
    | none => none
  | _ => none
theorem yfield {x : Operand} {s i g o o' e : Nat} (hx : evF f x = some (.pointer (some ⟨g, o, none⟩))) (hf : fieldB P s i = some e) (ho : o + e = o') : Yl X P f m ⟨d, .fieldAddr s x i, ty, pos, af, gd⟩ (.pointer (some ⟨g, o', none⟩)) := .of fun a w st => by
  subst ho
  unfold fieldB at hf
  split at hf
  · rename_i fs hu
    split at hf
    · rename_i fl hfl
      split at hf
      · rename_i inf hi
        simp only [cond_eq_ite, Nat.beq_eq] at hf
        split at hf
        · cases hf
        · rename_i hz
          obtain rfl := Option.some.inj hf
          have ha : (⟨g, o, none⟩ : Addr).add fl.offset = ⟨g, o + fl.offset, none⟩ := by unfold Addr.add; split <;> simp_all
          simp [execOp, st.agr.eval hx, Instr.fieldAt, run_underlying hu, hfl, Instr.sureAddr, fieldPlace, sizeOf, typeInfo, hi, hz, ha]
      · cases hf
    · cases hf
  · cases hf
def oneB (P : Program) (t : Nat) : Bool := match P.underlying t with
  | some (.struct _) => false
  | some (.array _ _) => false
  | some _ => true
  | none => false
theorem run_loadVar_one {t : Nat} {p : Addr} {v : Value} {w : World} (ht : oneB P t = true) (hc : w.cell? p = some v) : (loadVar t p).run P w = .ok v w := by
  unfold oneB at ht
  cases hu : P.underlying t with
  | none => simp [hu] at ht
  | some u =>
    have : (isAgg t).run P w = .ok false w := by
      unfold isAgg
      rw [Sem.run_bind, run_underlying hu w]
      cases u <;> simp_all
    simp [loadVar, this, run_load, hc]
theorem yload {x : Operand} {t g o i : Nat} {c : List Value} {tt : TypeId} {v : Value} (hx : evF f x = some (.pointer (some ⟨g, o, none⟩))) (hm : m[i]? = some (g, c, tt)) (hv : nth c o = some v) (ht : oneB P t = true) :
    Yl X P f m ⟨d, .load t x, ty, pos, af, gd⟩ v := .of fun a w st => by
  simp [execOp, st.agr.eval hx, Instr.loadAt, Instr.sureAddr, run_loadVar_one ht (st.has.cell hm hv)]
/-- .. of a cell that came in, in a block that does not change. -/
theorem yloadw {x : Operand} {t : Nat} {p : Addr} {v : Value} (hx : evF f x = some (.pointer (some p))) (hv : X.w0.cell? p = some v) (hs : ¬ X.S p.block) (ht : oneB P t = true) :
    Yl X P f m ⟨d, .load t x, ty, pos, af, gd⟩ v := .of fun a w st => by
  have hlt : p.block < X.w0.heap.size := by
    rcases Nat.lt_or_ge p.block X.w0.heap.size with h | h
    · exact h
    · simp [World.cell?, Array.getElem?_eq_none h] at hv
  have hc : w.cell? p = some v := by
    unfold World.cell?
    rw [st.evo.block _ hlt hs]
    exact hv
  simp [execOp, st.agr.eval hx, Instr.loadAt, Instr.sureAddr, run_loadVar_one ht hc]
def aggB (P : Program) (t n : Nat) : Bool := match P.underlying t with
  | some (.struct _) => match P.info? t with
    | some i => Nat.beq i.size n
    | none => false
  | _ => false
theorem aggB_size {t n : Nat} (h : aggB P t n = true) : (P.info? t).map (·.size) = some n ∧ ∃ fs, P.underlying t = some (.struct fs) := by
  unfold aggB at h
  split at h
  · rename_i fs hu
    split at h
    · rename_i i hi
      simp [hi, Nat.eq_of_beq_eq_true h, hu]
    · cases h
  · cases h
/-- A whole struct that is a block of its own. -/
theorem yloads {x : Operand} {t g i : Nat} {c : List Value} {tt : TypeId} (hx : evF f x = some (.pointer (some ⟨g, 0, none⟩))) (hm : m[i]? = some (g, c, tt)) (ht : aggB P t c.length = true) :
    Yl X P f m ⟨d, .load t x, ty, pos, af, gd⟩ (.agg c.toArray) := .of fun a w st => by
  obtain ⟨h1, fs, h2⟩ := aggB_size ht
  simp [execOp, st.agr.eval hx, Instr.loadAt, Instr.sureAddr, run_loadVar_row w g tt t c.toArray (0, 0) _ (st.has.at hm) h2 rfl (by simpa using h1)]
/-- A literal of a struct or an array. -/
def partsF (f : Fr) : List (Nat × Operand) → Option (List (Nat × Value))
  | [] => some []
  | (i, x) :: r => match evF f x, partsF f r with
    | some v, some vs => some ((i, v) :: vs)
    | _, _ => none
theorem partsF_eval {a : Act} (ha : Agr X.n X.D f a) : ∀ (l : List (Nat × Operand)) {vs : List (Nat × Value)}, partsF f l = some vs → l.map (fun q => (q.1, a.eval q.2)) = vs
  | [], vs, h => by simp [partsF] at h; simp [h]
  | (i, x) :: r, vs, h => by
    unfold partsF at h
    split at h
    · rename_i v vs' h1 h2
      obtain rfl := Option.some.inj h
      simp [ha.eval h1, partsF_eval ha r h2]
    · cases h
theorem ybuild {t : Nat} {l : List (Nat × Operand)} {vs : List (Nat × Value)} {c : Array Value} (hv : partsF f l = some vs) (hc : P.built t vs = some c) : Yl X P f m ⟨d, .build t l.toArray, ty, pos, af, gd⟩ (.agg c) := .of fun a w st => by
  have h1 := partsF_eval st.agr l hv
  have h2 : (l.toArray.map fun (q : Nat × Operand) => (q.1, a.eval q.2)).toList = vs := by simpa using h1
  have h3 := run_build (P := P) w t (l.toArray.map fun (q : Nat × Operand) => (q.1, a.eval q.2)) c (by rw [h2]; exact hc)
  unfold execOp
  simp only [Sem.run_bind]
  rw [h3]
  rfl

/-! ### changes -/
theorem jstore {ops : Array Oper} {Q : Exit → Act → World → Prop} {K : Act → World → Prop} {rest : List Oper} {x y : Operand} {t g o i : Nat} {c : List Value} {tt : TypeId} {u v : Value}
    (hx : evF f x = some (.pointer (some ⟨g, o, none⟩))) (hy : evF f y = some v) (hm : m[i]? = some (g, c, tt)) (hu : nth c o = some u) (h1 : v.oneCell' = true) (hz : (P.info? t).map (·.size) = some 1) (hg : X.S g ∨ X.w0.heap.size ≤ g)
    (h : J false X P ops Q K rest f (setM m i (setL c o v))) : J false X P ops Q K (⟨none, .store t x y, ty, pos, af, none⟩ :: rest) f m := by
  refine jeff (ι := Unit) (v := fun _ => undef) (m' := fun _ => setM m i (setL c o v)) (fun _ => True) rfl rfl (fun a w st => ⟨(), w.setCell ⟨g, o, none⟩ v, .inr ⟨?_, rfl⟩, st.has.set hm o v, st.evo.set hg o v, trivial⟩) (fun _ _ => h)
  have hcell := st.has.cell hm hu
  have hfro := st.has.frozen hm o
  have hst : (storeVar t ⟨g, o, none⟩ v).run P w = .ok () (w.setCell ⟨g, o, none⟩ v) := by
    cases hq : P.info? t with
    | none => simp [hq] at hz
    | some inf =>
      have hs : inf.size = 1 := by simpa [hq] using hz
      have hcs : v.cells = #[v] := by cases v <;> first | rfl | (simp [Value.oneCell'] at h1; done)
      simp [storeVar, sizeOf, typeInfo, hq, hs, hcs, storeCells, Addr.add, run_store P w _ v _ h1, hcell, hfro]
  simp [execOp, st.agr.eval hx, st.agr.eval hy, Instr.storeAt, Instr.sureAddr, hst]
theorem setRow_evo {S : Nat → Prop} {w0 w : World} (h : Evo S w0 w) {g : Nat} (hg : S g ∨ w0.heap.size ≤ g) (c : Array Value) : Evo S w0 (w.setRow g c) := by
  refine ⟨h.os, h.tape, h.output, by unfold World.setRow; simpa using h.size, fun k hk hs => ?_⟩
  unfold World.setRow
  simp only [Array.getElem?_modify]
  rw [if_neg (by rintro rfl; rcases hg with hg | hg; exact hs hg; omega)]
  exact h.block k hk hs
theorem setRow_has {w : World} (h : Has m w) {i g : Nat} {c c' : List Value} {t : TypeId} (hi : m[i]? = some (g, c, t)) : Has (setM m i c') (w.setRow g c'.toArray) := by
  refine ⟨by rw [setM_fst]; exact h.ne, fun x hx => ?_⟩
  unfold World.setRow
  simp only [Array.getElem?_modify]
  rcases setM_mem hi h.ne x hx with rfl | ⟨hx, hne⟩
  · rw [if_pos rfl, h.at hi]; rfl
  · rw [if_neg (Ne.symm hne)]; exact h.blk x hx
theorem jstores {ops : Array Oper} {Q : Exit → Act → World → Prop} {K : Act → World → Prop} {rest : List Oper} {x y : Operand} {t g i : Nat} {c c' : List Value} {tt : TypeId}
    (hx : evF f x = some (.pointer (some ⟨g, 0, none⟩))) (hy : evF f y = some (.agg c'.toArray)) (hm : m[i]? = some (g, c, tt)) (hl : c.length = c'.length) (h1 : c'.all (·.oneCell') = true) (hz : (P.info? t).map (·.size) = some c'.length) (hg : X.S g ∨ X.w0.heap.size ≤ g)
    (h : J false X P ops Q K rest f (setM m i c')) : J false X P ops Q K (⟨none, .store t x y, ty, pos, af, none⟩ :: rest) f m := by
  refine jeff (ι := Unit) (v := fun _ => undef) (m' := fun _ => setM m i c') (fun _ => True) rfl rfl (fun a w st => ⟨(), w.setRow g c'.toArray, .inr ⟨?_, rfl⟩, setRow_has st.has hm, setRow_evo st.evo hg _, trivial⟩) (fun _ _ => h)
  simp [execOp, st.agr.eval hx, st.agr.eval hy, Instr.storeAt, Instr.sureAddr, run_storeVar_row w g tt t c.toArray c'.toArray (st.has.at hm) (by simpa using hz) (by simpa using hl) (by simpa using h1)]
/-- A new variable. -/
theorem jalloc {ops : Array Oper} {Q : Exit → Act → World → Prop} {K : Act → World → Prop} {rest : List Oper} {t dd : Nat} {z : Value} (hz : (P.info? t).bind (·.zero) = some z) (hd : Nat.blt dd X.n = true)
    (h : ∀ g, X.w0.heap.size ≤ g → J false X P ops Q K rest ((dd, .pointer (some ⟨g, 0, none⟩)) :: f) ((g, z.cells.toList, t) :: m)) : J false X P ops Q K (⟨some dd, .alloc t, ty, pos, af, none⟩ :: rest) f m := by
  refine jeff (ι := Nat) (v := fun g => .pointer (some ⟨g, 0, none⟩)) (m' := fun g => (g, z.cells.toList, t) :: m) (fun g => X.w0.heap.size ≤ g) rfl hd (fun a w st => ⟨w.heap.size, w.alloc (.cells z.cells t), .inl ?_, by have := st.has.push z.cells.toList t; simpa using this, st.evo.push _, st.evo.size⟩) (fun g hg => h g hg)
  cases hq : P.info? t with
  | none => simp [hq] at hz
  | some inf =>
    have hs : inf.zero = some z := by simpa [hq] using hz
    simp [execOp, Instr.alloc, zeroValue, typeInfo, hq, hs, newVar, newRow, run_newObj]
end

/-! ### a function's beginning and end -/
def args0 : Nat → List Value → Fr
  | _, [] => []
  | i, v :: r => (i, v) :: args0 (i + 1) r
theorem look_args0 (vs : List Value) : ∀ (i j : Nat) (v : Value), look (args0 i vs) j = some v → i ≤ j ∧ vs[j - i]? = some v := by
  induction vs with
  | nil => intro i j v h; cases h
  | cons u r ih =>
    intro i j v h
    simp only [args0, look, cond_eq_ite, Nat.beq_eq] at h
    by_cases e : i = j
    · rw [if_pos e] at h; subst e; simpa using h
    · rw [if_neg e] at h
      have := ih (i + 1) j v h
      refine ⟨by omega, ?_⟩
      rw [show j - i = (j - (i + 1)) + 1 by omega]
      exact this.2
theorem enter {P : Program} {k : Nat} {fn : Func} {c : Code} {vs : List Value} {w : World} {R : Ending → World → Prop} (S : Nat → Prop) (n : Nat) (m : Mem) (hf : P.funcs[k]? = some fn) (hb : fn.body = some c) (hn : fn.ntmps = n) (hl : Nat.ble vs.length n = true) (hm : Has m w)
    (h : PJ ⟨n, [], S, w⟩ (c.wp P (bodyPost P fn R)) (args0 0 vs) m) : Calls P k vs.toArray w R := by
  refine calls_of_wp hf hb (h.out _ _ ⟨⟨?_, rfl, fun j v hj => ?_⟩, hm, Evo.refl _ _⟩)
  · have := Nat.le_of_ble_eq_true hl
    simp [hn]; omega
  · have h1 := look_args0 vs 0 j v hj
    have h2 : vs[j]? = some v := by simpa using h1.2
    have h3 : j < vs.length := by
      rcases Nat.lt_or_ge j vs.length with h | h
      · exact h
      · rw [List.getElem?_eq_none h] at h2; cases h2
    have := Nat.le_of_ble_eq_true hl
    refine ⟨by dsimp; omega, ?_⟩
    simp only [Array.getD_eq_getD_getElem?]
    rw [Array.getElem?_append_left (by simpa using h3)]
    simp [h2]
theorem ret0 {P : Program} {fn : Func} {X : Cx} {R : Ending → World → Prop} {f : Fr} {m : Mem} (hD : X.D = []) (hr : fn.results = #[]) (h : ∀ w, Cl X m w → R (.returned (.tuple #[])) w) : PJ X (bodyPost P fn R .ret) f m := .of fun a w s =>
  bodyPost_ret (results_none hr _ _ _) (s.agr.defers.trans hD) (h w ⟨s.has, s.evo⟩)
theorem end0 {P : Program} {fn : Func} {X : Cx} {R : Ending → World → Prop} {f : Fr} {m : Mem} (hD : X.D = []) (hr : fn.results = #[]) (h : ∀ w, Cl X m w → R (.returned (.tuple #[])) w) : PJ X (bodyPost P fn R .normal) f m := .of fun a w s =>
  bodyPost_end (results_none hr _ _ _) (s.agr.defers.trans hD) (h w ⟨s.has, s.evo⟩)
theorem ret1 {P : Program} {fn : Func} {X : Cx} {R : Ending → World → Prop} {f : Fr} {m : Mem} {t : Nat} {v : Value} (hD : X.D = []) (hr : fn.results = #[.tmp t]) (hv : look f t = some v) (h : ∀ w, Cl X m w → R (.returned v) w) : PJ X (bodyPost P fn R .ret) f m := .of fun a w s =>
  bodyPost_ret (results_tmp hr _ _ _) (s.agr.defers.trans hD) (by rw [(s.agr.slot t v hv).2]; exact h w ⟨s.has, s.evo⟩)
theorem ret2 {P : Program} {fn : Func} {X : Cx} {R : Ending → World → Prop} {f : Fr} {m : Mem} {t u : Nat} {v v' : Value} (hD : X.D = []) (hr : fn.results = #[.tmp t, .tmp u]) (hv : look f t = some v) (hv' : look f u = some v') (h : ∀ w, Cl X m w → R (.returned (.tuple #[v, v'])) w) : PJ X (bodyPost P fn R .ret) f m := .of fun a w s =>
  bodyPost_ret (results_tmp2 hr _ _ _) (s.agr.defers.trans hD) (by rw [(s.agr.slot t v hv).2, (s.agr.slot u v' hv').2]; exact h w ⟨s.has, s.evo⟩)
/-- .. a struct in a variable of its own, and one more. -/
theorem retc1 {P : Program} {fn : Func} {X : Cx} {R : Ending → World → Prop} {f : Fr} {m : Mem} {t ty u g i : Nat} {c : List Value} {tt : TypeId} {v' : Value} (hD : X.D = []) (hr : fn.results = #[.cell t ty, .tmp u]) (hv : look f t = some (.pointer (some ⟨g, 0, none⟩)))
    (hm : m[i]? = some (g, c, tt)) (ht : aggB P ty c.length = true) (hv' : look f u = some v') (h : ∀ w, Cl X m w → R (.returned (.tuple #[.agg c.toArray, v'])) w) : PJ X (bodyPost P fn R .ret) f m := .of fun a w s => by
  obtain ⟨h1, fs, h2⟩ := aggB_size ht
  refine bodyPost_ret (v := .tuple #[.agg c.toArray, v']) ?_ (s.agr.defers.trans hD) (h w ⟨s.has, s.evo⟩)
  have e1 := (s.agr.slot t _ hv).2
  have e2 := (s.agr.slot u _ hv').2
  simp only [Array.getD_eq_getD_getElem?] at e1 e2
  simp [results, hr, e1, e2, asAddr, run_loadVar_row w g tt ty c.toArray (0, 0) _ (s.has.at hm) h2 rfl (by simpa using h1)]
end Go.Rx
