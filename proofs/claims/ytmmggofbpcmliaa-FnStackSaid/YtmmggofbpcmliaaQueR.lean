/- The small logic: a lock taken and given back; deferred calls; for every program. -/
import Derived.Test.YtmmggofbpcmliaaRx
import Derived.Conc.MuLone
import Derived.Defers
set_option linter.unusedVariables false
namespace Go.Rx
open Go.RowKit
section
variable {X : Cx} {P : Program} {f : Fr} {m : Mem} {d : Option Tmp} {ty : TypeId} {pos : String} {af : Array Edge} {gd : Option (Nat × Bool)} {ops : Array Oper} {Q : Exit → Act → World → Prop} {K : Act → World → Prop} {rest : List Oper} {L : Go.Conc.Locks.MuLink}
theorem lockC (H : Go.Conc.Locks.MuLib P L) {i g o : Nat} {c : List Value} {t : TypeId} (hm : m[i]? = some (g, c, Bk.c t)) (hv : nth c o = some (.int .i32 0)) (hg : X.may g) :
    ∀ w, Cl X m w → Calls P L.lock #[.pointer (some ⟨g, o, none⟩)] w fun e w' => e = .returned (.tuple #[]) ∧ Cl X (setM m i (setL c o (.int .i32 1))) w' := fun w hw =>
  (Go.MuLone.lock_free H ⟨g, o, none⟩ w (hw.1.cell hm hv) (hw.1.frozen hm o)).mono fun e w' ⟨h1, h2⟩ => ⟨h1, by rw [h2]; exact hw.1.set hm o _, by rw [h2]; exact hw.2.set hg o _⟩
theorem unlockC (H : Go.Conc.Locks.MuLib P L) {i g o : Nat} {c : List Value} {t : TypeId} (hm : m[i]? = some (g, c, Bk.c t)) (hv : nth c o = some (.int .i32 1)) (hg : X.may g) :
    ∀ w, Cl X m w → Calls P L.unlock #[.pointer (some ⟨g, o, none⟩)] w fun e w' => e = .returned (.tuple #[]) ∧ Cl X (setM m i (setL c o (.int .i32 0))) w' := fun w hw =>
  (Go.MuLone.unlock_held H ⟨g, o, none⟩ w (hw.1.cell hm hv) (hw.1.frozen hm o)).mono fun e w' ⟨h1, h2⟩ => ⟨h1, by rw [h2]; exact hw.1.set hm o _, by rw [h2]; exact hw.2.set hg o _⟩
/-- A call is put off. -/
theorem jdefer {k : Nat} {x : Operand} {tys : Array TypeId} {v : Value} (hx : evF f x = some v)
    (h : J false ⟨X.n, ⟨.fn (.func k) #[], #[v]⟩ :: X.D, X.S, X.w0⟩ P ops Q K rest f m) : J false X P ops Q K (⟨none, .defer ⟨.value (.func k), #[x], tys⟩, ty, pos, af, none⟩ :: rest) f m := by
  refine ⟨fun a w s => ?_⟩
  unfold wpList
  rw [if_pos (by rfl)]
  refine .inl ?_
  unfold Oper.wp
  have hr : (execOp a.eval ⟨none, .defer ⟨.value (.func k), #[x], tys⟩, ty, pos, af, none⟩).run P w = .ok (.defer ⟨.fn (.func k) #[], #[v]⟩) w := by
    have h1 : a.eval (.func k) = .func (.func k) #[] #[] := rfl
    simp [execOp, resolve, Deferred.ofValue, h1, s.agr.eval hx]
  rw [hr]
  refine h.out _ _ ⟨⟨s.agr.size, ?_, s.agr.slot⟩, s.has, s.evo⟩
  show _ :: a.defers = _ :: X.D
  rw [s.agr.defers]
/-- Into a function that puts calls off. -/
theorem enterD {k : Nat} {fn : Func} {c : Code} {vs : List Value} {w : World} {R : Ending → World → Prop} (n : Nat) (hw : Cl X m w) (hf : P.funcs[k]? = some fn) (hb : fn.body = some c) (hn : fn.ntmps = n) (hl : Nat.ble vs.length n = true)
    (h : PJ (X.sub n w) (c.wp P (bodyPostD P fn R)) (args0 0 vs) m) : Calls P k vs.toArray w R := by
  refine calls_of_wp_defers hf hb (h.out _ _ ⟨⟨?_, rfl, fun j v hj => ?_⟩, hw.1, Evo.refl _ _⟩)
  · have := Nat.le_of_ble_eq_true hl
    simp [Cx.sub, hn]; omega
  · have h1 := look_args0 vs 0 j v hj
    have h2 : vs[j]? = some v := by simpa using h1.2
    have h3 : j < vs.length := by
      rcases Nat.lt_or_ge j vs.length with h | h
      · exact h
      · rw [List.getElem?_eq_none h] at h2; cases h2
    have := Nat.le_of_ble_eq_true hl
    refine ⟨by dsimp [Cx.sub]; omega, ?_⟩
    simp only [Array.getD_eq_getD_getElem?]
    rw [Array.getElem?_append_left (by simpa using h3)]
    simp [h2]
/-- The end: a lock's giving back was put off. -/
theorem retU (H : Go.Conc.Locks.MuLib P L) {fn : Func} {R : Ending → World → Prop} {t g o i : Nat} {c : List Value} {tt : TypeId} {v : Value} (hb : bodyB P L.unlock = true) (hD : X.D = [⟨.fn (.func L.unlock) #[], #[.pointer (some ⟨g, o, none⟩)]⟩]) (hr : fn.results = #[.tmp t]) (hv : look f t = some v)
    (hm : m[i]? = some (g, c, Bk.c tt)) (hc : nth c o = some (.int .i32 1)) (hg : X.may g) (h : ∀ w, Cl X (setM m i (setL c o (.int .i32 0))) w → R (.returned v) w) : PJ X (bodyPostD P fn R .ret) f m := .of fun a w s => by
  show Leaves P fn a.tmps R a.defers .returning w
  rw [s.agr.defers.trans hD]
  refine leaves_cons (f := L.unlock) (args := #[.pointer (some ⟨g, o, none⟩)]) (by simp) ?_ ?_
  · unfold bodyB at hb
    cases hf : P.funcs[L.unlock]? with
    | none => simp [hf] at hb
    | some fn =>
      simp only [hf, Bool.and_eq_true, Bool.not_eq_true', beq_eq_false_iff_ne] at hb
      obtain ⟨h1, h2⟩ := hb
      have h3 : fn.body.isNone = false := by cases h : fn.body <;> simp [h] at h1 ⊢
      simp [invoke, callFunc, Sem.run_bind, program, Sem.run, hf, pure]
      rw [if_neg (by simpa using h2), if_neg (by intro e; rw [e] at h3; cases h3)]
  · refine (Go.MuLone.unlock_deferred H ⟨g, o, none⟩ .returning w (s.has.cell hm hc) (s.has.frozen hm o)).mono fun e u' w' ⟨h1, h2, h3⟩ => ?_
    subst h1
    subst h2
    show Leaves P fn a.tmps R [] .returning w'
    refine ⟨_, results_tmp hr _ _ _, ?_⟩
    rw [(s.agr.slot t v hv).2]
    exact h w' ⟨by rw [h3]; exact s.has.set hm o _, by rw [h3]; exact s.evo.set hg o _⟩
end
end Go.Rx
