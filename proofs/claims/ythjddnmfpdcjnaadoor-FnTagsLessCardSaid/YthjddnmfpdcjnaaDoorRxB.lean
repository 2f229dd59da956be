/- The small logic's rules for regions and single operations; for every program. -/
import Derived.Test.YthjddnmfpdcjnaaDoorRxA
set_option linter.unusedVariables false
set_option linter.unusedSimpArgs false
namespace Go.Rx
open Go.RowKit

def Cl (X : Cx) (m : Mem) (w : World) : Prop := Has m w ∧ Evo X.S X.w0 w

/-- The operations of a region that are left: in the text's order (false), or of a region that only reads, in whatever order (true). -/
def J0 (qt : Bool) (X : Cx) (P : Program) (ops : Array Oper) (Q : Exit → Act → World → Prop) (K : Act → World → Prop) (l : List Oper) (f : Fr) (m : Mem) : Prop := match qt with
  | false => ∀ a w, St X f m a w → wpList P ops (Exit.then K Q) l a w
  | true => ∀ a, Agr X.n X.D f a → wpQuiet P ops (Cl X m) (fun a' => ∀ w', Cl X m w' → K a' w') l a

structure J (qt : Bool) (X : Cx) (P : Program) (ops : Array Oper) (Q : Exit → Act → World → Prop) (K : Act → World → Prop) (l : List Oper) (f : Fr) (m : Mem) : Prop where
  of :: out : J0 qt X P ops Q K l f m

section
variable {qt : Bool} {X : Cx} {P : Program} {ops : Array Oper} {Q : Exit → Act → World → Prop} {K : Act → World → Prop} {l rest : List Oper} {f : Fr} {m : Mem} {o : Oper}

theorem then_self (Q : Exit → Act → World → Prop) : Exit.then (Q .normal) Q = Q := by
  funext e a w; cases e <;> rfl
theorem rtext {id : Nat} (h : J false X P l.toArray Q (Q .normal) l f m) : PJ X ((Code.region id l.toArray false).wp P Q) f m := .of fun a w s => by
  have := h.out a w s
  rw [then_self] at this
  exact wp_region_lit this
theorem rquiet {id : Nat} (hm : P.follows .mixedOrders = true) (hB : Region.lexB .any l.toArray = true) (h : J true X P l.toArray Q (Q .normal) l f m) : PJ X ((Code.region id l.toArray true).wp P Q) f m := .of fun a w s =>
  wp_region_quiet (C := Cl X m) hm hB ⟨s.has.drawn _, s.evo.drawn _⟩ (by simpa using h.out a s.agr)
theorem jlist (h : J false X P ops Q (Q .normal) l f m) : PJ X (wpList P ops Q l) f m := .of fun a w s => by
  have := h.out a w s
  rwa [then_self] at this
theorem jnil (h : PJ X K f m) : J qt X P ops Q K [] f m := by
  cases qt with
  | false => exact ⟨h.out⟩
  | true => exact ⟨fun a ha => wpQuiet_nil fun w' hw => h.out a w' ⟨ha, hw.1, hw.2⟩⟩

def wantedF (ops : Array Oper) (f : Fr) (o : Oper) : Option Bool := match o.guard with
  | none => some true
  | some (j, want) => match (ops[j]?).bind (·.dst) with
    | some t => match look f t with
      | some (.bool b) => some (b == want)
      | some _ => some false
      | none => none
    | none => none

theorem wanted_of {a : Act} {b : Bool} (h : wantedF ops f o = some b) (ha : Agr X.n X.D f a) : Region.wanted o (yielded ops a.tmps) = b := by
  unfold wantedF at h
  unfold Region.wanted
  cases hg : o.guard with
  | none => simp [hg] at h; simp [h]
  | some g =>
    obtain ⟨j, want⟩ := g
    simp only [hg] at h
    cases ho : (ops[j]?).bind (·.dst) with
    | none => simp [ho] at h
    | some t =>
      simp only [ho] at h
      cases hl : look f t with
      | none => simp [hl] at h
      | some v =>
        have h2 := ha.slot t v hl
        have h3 : a.tmps[t]? = some v := by
          have hlt : t < a.tmps.size := by rw [ha.size]; exact h2.1
          have := h2.2
          simp only [Array.getD_eq_getD_getElem?, Array.getElem?_eq_getElem hlt, Option.getD_some] at this
          rw [Array.getElem?_eq_getElem hlt, this]
        simp only [yielded, ho, Option.bind_some, h3]
        cases v with
        | bool c => simp only [hl] at h; rw [← Option.some.inj h]; cases c <;> cases want <;> rfl
        | _ => simp only [hl] at h; rw [← Option.some.inj h]; rfl

def DstOk (X : Cx) (o : Oper) : Prop := ∀ t, o.dst = some t → t < X.n
def dstB (n : Nat) (o : Oper) : Bool := match o.dst with
  | some t => Nat.blt t n
  | none => true
theorem dst_of (h : dstB X.n o = true) : ∀ t, o.dst = some t → t < X.n := fun t ht => by
  simpa [dstB, ht] using h

/-- An operation that is passed over. -/
theorem jskip (hw : wantedF ops f o = some false) (hd : dstB X.n o = true) (h : J qt X P ops Q K rest (put f o.dst undef) m) : J qt X P ops Q K (o :: rest) f m := by
  cases qt with
  | false =>
    refine ⟨fun a w s => ?_⟩
    have hw' := wanted_of hw s.agr
    unfold wpList
    rw [if_neg (by rw [hw']; exact Bool.false_ne_true)]
    exact h.out _ _ ⟨s.agr.put (dst_of hd) _, s.has, s.evo⟩
  | true =>
    refine ⟨fun a ha => ?_⟩
    have hw' := wanted_of hw ha
    unfold wpQuiet
    rw [if_neg (by rw [hw']; exact Bool.false_ne_true)]
    exact h.out _ (ha.put (dst_of hd) _)

/-- An operation that only reads: what it hands back, in every world that is so. -/
structure Yl (X : Cx) (P : Program) (f : Fr) (m : Mem) (o : Oper) (v : Value) : Prop where
  of :: out : ∀ a w, St X f m a w → (execOp a.eval o).run P w = .ok (.value v) w

theorem jy0 {v : Value} (hw : wantedF ops f o = some true) (hd : dstB X.n o = true) (hy : Yl X P f m o v) (h : J qt X P ops Q K rest (put f o.dst v) m) : J qt X P ops Q K (o :: rest) f m := by
  cases qt with
  | false =>
    refine ⟨fun a w s => ?_⟩
    have hw' := wanted_of hw s.agr
    unfold wpList
    rw [if_pos hw']
    refine .inl ?_
    unfold Oper.wp
    rw [hy.out a w s]
    exact h.out _ _ ⟨s.agr.put (dst_of hd) _, s.has, s.evo⟩
  | true =>
    refine ⟨fun a ha => ?_⟩
    have hw' := wanted_of hw ha
    unfold wpQuiet
    rw [if_pos hw']
    refine ⟨v, fun w hC => ?_, h.out _ (ha.put (dst_of hd) _)⟩
    unfold Oper.quietAt
    rw [hy.out a w ⟨ha, hC.1, hC.2⟩]
    exact ⟨rfl, rfl⟩

theorem jy {d : Nat} {op : Op} {ty : TypeId} {pos : String} {af : Array Edge} {gd : Option (Nat × Bool)} {v : Value} (hy : Yl X P f m ⟨some d, op, ty, pos, af, gd⟩ v) (hw : wantedF ops f ⟨some d, op, ty, pos, af, gd⟩ = some true) (hd : Nat.blt d X.n = true)
    (h : J qt X P ops Q K rest ((d, v) :: f) m) : J qt X P ops Q K (⟨some d, op, ty, pos, af, gd⟩ :: rest) f m := jy0 hw hd hy h
theorem js {d : Nat} {op : Op} {ty : TypeId} {pos : String} {af : Array Edge} {gd : Nat × Bool} (hw : wantedF ops f ⟨some d, op, ty, pos, af, some gd⟩ = some false) (hd : Nat.blt d X.n = true)
    (h : J qt X P ops Q K rest ((d, undef) :: f) m) : J qt X P ops Q K (⟨some d, op, ty, pos, af, some gd⟩ :: rest) f m := jskip hw hd h

/-- An operation that changes the world; what it hands back may lean on the world. -/
theorem jeff {ι : Sort _} {v : ι → Value} {m' : ι → Mem} (p : ι → Prop) (hw : wantedF ops f o = some true) (hd : dstB X.n o = true)
    (hy : ∀ a w, St X f m a w → ∃ i w', ((execOp a.eval o).run P w = .ok (.value (v i)) w' ∨ ((execOp a.eval o).run P w = .ok .skip w' ∧ v i = undef)) ∧ Has (m' i) w' ∧ Evo X.S X.w0 w' ∧ p i)
    (h : ∀ i, p i → J false X P ops Q K rest (put f o.dst (v i)) (m' i)) : J false X P ops Q K (o :: rest) f m := by
  refine ⟨fun a w s => ?_⟩
  have hw' := wanted_of hw s.agr
  obtain ⟨i, w', hr, hh, he, hp⟩ := hy a w s
  unfold wpList
  rw [if_pos hw']
  refine .inl ?_
  unfold Oper.wp
  rcases hr with hr | ⟨hr, hv⟩
  · rw [hr]
    exact (h i hp).out _ _ ⟨s.agr.put (dst_of hd) _, hh, he⟩
  · rw [hr]
    have := (h i hp).out _ w' ⟨s.agr.put (dst_of hd) _, hh, he⟩
    rw [hv] at this
    exact this

/-- A call: its function and its arguments. -/
def callF (f : Fr) : List Operand → Option (List Value)
  | [] => some []
  | x :: r => match evF f x, callF f r with
    | some v, some vs => some (v :: vs)
    | _, _ => none
theorem callF_eval {a : Act} (ha : Agr X.n X.D f a) : ∀ (l : List Operand) {vs : List Value}, callF f l = some vs → l.map a.eval = vs
  | [], vs, h => by simp [callF] at h; simp [h]
  | x :: r, vs, h => by
    unfold callF at h
    split at h
    · rename_i v vs' h1 h2
      obtain rfl := Option.some.inj h
      simp [ha.eval h1, callF_eval ha r h2]
    · cases h
def bodyB (P : Program) (k : Nat) : Bool := match P.funcs[k]? with
  | some fn => fn.body.isSome && !(fn.name == "runtime.NumGoroutine")
  | none => false
theorem run_call {a : Act} {k : Nat} {as : List Operand} {tys : Array TypeId} {d : Option Tmp} {ty : TypeId} {pos : String} {af : Array Edge} {gd : Option (Nat × Bool)} {vs : List Value} {w : World}
    (hb : bodyB P k = true) (ha : Agr X.n X.D f a) (hv : callF f as = some vs) :
    (execOp a.eval ⟨d, .call ⟨.value (.func k), as.toArray, tys⟩, ty, pos, af, gd⟩).run P w = .ok (.enter k vs.toArray) w := by
  have hm := callF_eval ha as hv
  unfold bodyB at hb
  cases hf : P.funcs[k]? with
  | none => simp [hf] at hb
  | some fn =>
    simp only [hf, Bool.and_eq_true, Bool.not_eq_true', beq_eq_false_iff_ne] at hb
    obtain ⟨h1, h2⟩ := hb
    have h3 : fn.body.isNone = false := by cases h : fn.body <;> simp [h] at h1 ⊢
    have h4 : (fn.name == "runtime.NumGoroutine") = false := by simpa using h2
    simp [execOp, resolve, Deferred.ofValue, invoke, callFunc, Act.eval, Sem.run_bind, program, Sem.run, hf, hm, pure]
    rw [if_neg (by simpa using h2), if_neg (by intro e; rw [e] at h3; cases h3)]

/-- A call in a region that only reads: what comes back does not lean on the world. -/
theorem jcallq {k : Nat} {as : List Operand} {tys : Array TypeId} {d : Nat} {ty : TypeId} {pos : String} {af : Array Edge} {gd : Option (Nat × Bool)} {vs : List Value} {v : Value}
    (hb : bodyB P k = true) (hw : wantedF ops f ⟨some d, .call ⟨.value (.func k), as.toArray, tys⟩, ty, pos, af, gd⟩ = some true) (hd : Nat.blt d X.n = true) (hv : callF f as = some vs)
    (hc : ∀ w, Cl X m w → Calls P k vs.toArray w fun e w' => e = .returned v ∧ Cl X m w')
    (h : J qt X P ops Q K rest ((d, v) :: f) m) : J qt X P ops Q K (⟨some d, .call ⟨.value (.func k), as.toArray, tys⟩, ty, pos, af, gd⟩ :: rest) f m := by
  cases qt with
  | false =>
    refine ⟨fun a w s => ?_⟩
    have hw' := wanted_of hw s.agr
    unfold wpList
    rw [if_pos hw']
    refine .inl ?_
    unfold Oper.wp
    rw [run_call hb s.agr hv]
    refine (hc w ⟨s.has, s.evo⟩).mono ?_
    rintro e w' ⟨rfl, hh, he⟩
    exact h.out _ _ ⟨s.agr.put (d := some d) (dst_of (o := ⟨some d, .call ⟨.value (.func k), as.toArray, tys⟩, ty, pos, af, gd⟩) hd) _, hh, he⟩
  | true =>
    refine ⟨fun a ha => ?_⟩
    have hw' := wanted_of hw ha
    unfold wpQuiet
    rw [if_pos hw']
    refine ⟨v, fun w hC => ?_, h.out _ (ha.put (d := some d) (dst_of (o := ⟨some d, .call ⟨.value (.func k), as.toArray, tys⟩, ty, pos, af, gd⟩) hd) _)⟩
    unfold Oper.quietAt
    rw [run_call hb ha hv]
    exact ⟨rfl, hc w hC⟩
/-- A call that changes what is known. -/
theorem jcall {k : Nat} {as : List Operand} {tys : Array TypeId} {d : Nat} {ty : TypeId} {pos : String} {af : Array Edge} {gd : Option (Nat × Bool)} {vs : List Value} {ι : Sort _} {v : ι → Value} {m' : ι → Mem} (p : ι → Prop)
    (hb : bodyB P k = true) (hw : wantedF ops f ⟨some d, .call ⟨.value (.func k), as.toArray, tys⟩, ty, pos, af, gd⟩ = some true) (hd : Nat.blt d X.n = true) (hv : callF f as = some vs)
    (hc : ∀ w, Cl X m w → Calls P k vs.toArray w fun e w' => ∃ i, e = .returned (v i) ∧ Cl X (m' i) w' ∧ p i)
    (h : ∀ i, p i → J false X P ops Q K rest ((d, v i) :: f) (m' i)) : J false X P ops Q K (⟨some d, .call ⟨.value (.func k), as.toArray, tys⟩, ty, pos, af, gd⟩ :: rest) f m := by
  refine ⟨fun a w s => ?_⟩
  have hw' := wanted_of hw s.agr
  unfold wpList
  rw [if_pos hw']
  refine .inl ?_
  unfold Oper.wp
  rw [run_call hb s.agr hv]
  refine (hc w ⟨s.has, s.evo⟩).mono ?_
  rintro e w' ⟨i, rfl, ⟨hh, he⟩, hp⟩
  exact (h i hp).out _ _ ⟨s.agr.put (d := some d) (dst_of (o := ⟨some d, .call ⟨.value (.func k), as.toArray, tys⟩, ty, pos, af, gd⟩) hd) _, hh, he⟩
end
end Go.Rx
