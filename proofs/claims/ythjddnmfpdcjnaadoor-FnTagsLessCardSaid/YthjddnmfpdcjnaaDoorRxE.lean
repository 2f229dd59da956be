/- The small logic's rules for loops, for tests that part the walk, and for callees; for every program. -/
import Derived.Test.YthjddnmfpdcjnaaDoorRxD
import Derived.Deep.LoopGhost
set_option linter.unusedVariables false
set_option linter.unusedSimpArgs false
namespace Go.Rx
open Go.RowKit

section
variable {P : Program} {X : Cx} {Q : Exit → Act → World → Prop} {f : Fr} {m : Mem}

theorem cloop {c : Code} {ι : Sort _} (F : ι → Fr) (M : ι → Mem) (p : Nat → ι → Prop) (n0 : Nat) (i0 : ι) (h0 : p n0 i0)
    (round : ∀ n i, p n i → ∀ K : Act → World → Prop, (∀ k j, k < n → p k j → PJ X K (F j) (M j)) → PJ X (c.wp P (Exit.then K Q)) (F i) (M i)) : PJ X ((Code.loop c).wp P Q) (F i0) (M i0) := .of fun a w s => by
  refine wp_loop_ghost (fun n a w => ∃ i, p n i ∧ St X (F i) (M i) a w) n0 ⟨i0, h0, s⟩ ?_
  rintro n a w ⟨i, hp, st⟩
  exact (round n i hp _ (fun k j hk hj => .of fun a' w' st' => ⟨k, hk, j, hj, st'⟩)).out a w st

variable {qt : Bool} {ops : Array Oper} {K : Act → World → Prop} {rest : List Oper} {d : Nat} {ty : TypeId} {pos : String} {af : Array Edge} {gd : Option (Nat × Bool)} {x y : Operand} {k : IntKind} {i j : Int} {t t' : TypeId}
theorem jlss (hx : evF f x = some (.int k i)) (hy : evF f y = some (.int k j)) (hw : wantedF ops f ⟨some d, .binOp .lss t x y t', ty, pos, af, gd⟩ = some true) (hd : Nat.blt d X.n = true)
    (h1 : i < j → J qt X P ops Q K rest ((d, .bool true) :: f) m) (h0 : ¬ i < j → J qt X P ops Q K rest ((d, .bool false) :: f) m) : J qt X P ops Q K (⟨some d, .binOp .lss t x y t', ty, pos, af, gd⟩ :: rest) f m := by
  by_cases h : i < j
  · exact jy (ylss hx hy (decide_eq_true h)) hw hd (h1 h)
  · exact jy (ylss hx hy (decide_eq_false h)) hw hd (h0 h)
theorem jleq (hx : evF f x = some (.int k i)) (hy : evF f y = some (.int k j)) (hw : wantedF ops f ⟨some d, .binOp .leq t x y t', ty, pos, af, gd⟩ = some true) (hd : Nat.blt d X.n = true)
    (h1 : i ≤ j → J qt X P ops Q K rest ((d, .bool true) :: f) m) (h0 : ¬ i ≤ j → J qt X P ops Q K rest ((d, .bool false) :: f) m) : J qt X P ops Q K (⟨some d, .binOp .leq t x y t', ty, pos, af, gd⟩ :: rest) f m := by
  by_cases h : i ≤ j
  · exact jy (yleq hx hy (decide_eq_true h)) hw hd (h1 h)
  · exact jy (yleq hx hy (decide_eq_false h)) hw hd (h0 h)
theorem jgtr (hx : evF f x = some (.int k i)) (hy : evF f y = some (.int k j)) (hw : wantedF ops f ⟨some d, .binOp .gtr t x y t', ty, pos, af, gd⟩ = some true) (hd : Nat.blt d X.n = true)
    (h1 : j < i → J qt X P ops Q K rest ((d, .bool true) :: f) m) (h0 : ¬ j < i → J qt X P ops Q K rest ((d, .bool false) :: f) m) : J qt X P ops Q K (⟨some d, .binOp .gtr t x y t', ty, pos, af, gd⟩ :: rest) f m := by
  by_cases h : j < i
  · exact jy (ygtr hx hy (decide_eq_true h)) hw hd (h1 h)
  · exact jy (ygtr hx hy (decide_eq_false h)) hw hd (h0 h)
theorem jgeq (hx : evF f x = some (.int k i)) (hy : evF f y = some (.int k j)) (hw : wantedF ops f ⟨some d, .binOp .geq t x y t', ty, pos, af, gd⟩ = some true) (hd : Nat.blt d X.n = true)
    (h1 : j ≤ i → J qt X P ops Q K rest ((d, .bool true) :: f) m) (h0 : ¬ j ≤ i → J qt X P ops Q K rest ((d, .bool false) :: f) m) : J qt X P ops Q K (⟨some d, .binOp .geq t x y t', ty, pos, af, gd⟩ :: rest) f m := by
  by_cases h : j ≤ i
  · exact jy (ygeq hx hy (decide_eq_true h)) hw hd (h1 h)
  · exact jy (ygeq hx hy (decide_eq_false h)) hw hd (h0 h)
theorem jeql (hx : evF f x = some (.int k i)) (hy : evF f y = some (.int k j)) (hw : wantedF ops f ⟨some d, .binOp .eql t x y t', ty, pos, af, gd⟩ = some true) (hd : Nat.blt d X.n = true)
    (h1 : i = j → J qt X P ops Q K rest ((d, .bool true) :: f) m) (h0 : ¬ i = j → J qt X P ops Q K rest ((d, .bool false) :: f) m) : J qt X P ops Q K (⟨some d, .binOp .eql t x y t', ty, pos, af, gd⟩ :: rest) f m := by
  by_cases h : i = j
  · exact jy (yeql hx hy (decide_eq_true h)) hw hd (h1 h)
  · exact jy (yeql hx hy (decide_eq_false h)) hw hd (h0 h)
theorem jneq (hx : evF f x = some (.int k i)) (hy : evF f y = some (.int k j)) (hw : wantedF ops f ⟨some d, .binOp .neq t x y t', ty, pos, af, gd⟩ = some true) (hd : Nat.blt d X.n = true)
    (h1 : ¬ i = j → J qt X P ops Q K rest ((d, .bool true) :: f) m) (h0 : i = j → J qt X P ops Q K rest ((d, .bool false) :: f) m) : J qt X P ops Q K (⟨some d, .binOp .neq t x y t', ty, pos, af, gd⟩ :: rest) f m := by
  by_cases h : i = j
  · exact jy (yneq hx hy (decide_eq_false (by simpa using h))) hw hd (h0 h)
  · exact jy (yneq hx hy (decide_eq_true h)) hw hd (h1 h)
/-- A call that changes what is known, in one way. -/
theorem jcall0 {kf : Nat} {as : List Operand} {tys : Array TypeId} {vs : List Value} {v : Value} (m' : Mem)
    (hb : bodyB P kf = true) (hw : wantedF ops f ⟨some d, .call ⟨.value (.func kf), as.toArray, tys⟩, ty, pos, af, gd⟩ = some true) (hd : Nat.blt d X.n = true) (hv : callF f as = some vs)
    (hc : ∀ w, Cl X m w → Calls P kf vs.toArray w fun e w' => e = .returned v ∧ Cl X m' w')
    (h : J false X P ops Q K rest ((d, v) :: f) m') : J false X P ops Q K (⟨some d, .call ⟨.value (.func kf), as.toArray, tys⟩, ty, pos, af, gd⟩ :: rest) f m :=
  jcall (ι := Unit) (v := fun _ => v) (m' := fun _ => m') (fun _ => True) hb hw hd hv (fun w hw' => (hc w hw').mono fun e w' h => ⟨(), h.1, h.2, trivial⟩) (fun _ _ => h)
/-- .. of a Bool that is known by a name. -/
theorem csplit' {c : Operand} {u v : Code} {b : Bool} (hc : evF f c = some (.bool b)) (ht : b = true → PJ X (u.wp P Q) f m) (hf : ¬ b = true → PJ X (v.wp P Q) f m) : PJ X ((Code.cond c u v).wp P Q) f m :=
  csplit hc ht (fun h => hf (by rw [h]; exact Bool.false_ne_true))
end

/-- What is known of f is known of f', too. -/
def Sub (f : Fr) : Fr → Prop
  | [] => True
  | (i, v) :: r => look f i = some v ∧ Sub f r
theorem Sub.all {f : Fr} : ∀ {g : Fr}, Sub f g → ∀ x ∈ g, look f x.1 = some x.2
  | [], _, x, hx => by cases hx
  | (i, v) :: r, h, x, hx => by
    simp only [List.mem_cons] at hx
    rcases hx with rfl | hx
    · exact h.1
    · exact Sub.all h.2 x hx
theorem fin {X : Cx} {q : Act → World → Prop} {f f' : Fr} {m m' : Mem} (h : PJ X q f' m') (hs : Sub f f') (hm : m = m') : PJ X q f m := less hs.all (by rw [hm]; exact List.Sublist.refl _) h
theorem Cl.below {X : Cx} {m : Mem} {w w' : World} (h : Cl X m w) (hb : Below w.heap.size w w') : Cl X m w' := ⟨h.1.below hb, h.2.trans (Evo.of_below hb)⟩
/-- A callee that makes memory alone, whose result does not lean on the world. -/
theorem quietC {P : Program} {X : Cx} {m : Mem} {k : Nat} {as : Array Value} {v : Value} (h : ∀ w, Cl X m w → Calls P k as w fun e w' => e = .returned v ∧ Below w.heap.size w w') : ∀ w, Cl X m w → Calls P k as w fun e w' => e = .returned v ∧ Cl X m w' :=
  fun w hw => (h w hw).mono fun e w' ⟨he, hb⟩ => ⟨he, hw.below hb⟩
theorem i64_in {n : Int} (h0 : -9223372036854775808 ≤ n) (h1 : n ≤ 9223372036854775807) : IntKind.i64.wrap n = n := IntWalk.i64_in _ (by omega)

/-- What stands behind the first n pieces of a sequence, blocks laid open. -/
def sndN : Nat → Code → Code
  | n, .block _ c => sndN n c
  | n, .scope c => sndN n c
  | n + 1, .seq _ b => sndN n b
  | _, c => c
/-- The bodies of the loops of a text, the outer ones first. -/
def loopsIn : Code → List Code
  | .seq x y => loopsIn x ++ loopsIn y
  | .block _ c => loopsIn c
  | .scope c => loopsIn c
  | .loop c => c :: loopsIn c
  | .cond _ x y => loopsIn x ++ loopsIn y
  | _ => []
def loopOf (fn : Func) (k : Nat) : Code := (((fn.body.map loopsIn).getD [])[k]?).getD .skip
end Go.Rx
