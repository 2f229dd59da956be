/- For the laws of stacks: what impl.Stack told, read again. -/
import Derived.Test.YtmmggofbpcmliaaImpS
import Derived.Test.YtmmggofbpcmliaaLawU
set_option linter.unusedVariables false
namespace Go.Proofs.Ytmmggofbpcmliaa.StkW
open Go.Rx hiding bt
open Go.RowKit Go.Proofs.Ytmmggofbpcmliaa.OrdW Go.Proofs.Ytmmggofbpcmliaa.QueW
/-- What impl.Stack told of steps. -/
def SToldAt (w : World) (v : Value) (steps : List QStep) : Prop := ∃ ts : List (List Value), RowAt nof w v steps.length ts.flatten ∧ ts.length = steps.length ∧ (∀ (i : Nat) cs t, ts[i]? = some cs → (srun [] steps)[i]? = some t → SCells nof w cs t) ∧ CapOk v
theorem srun_get (s : List QStep) : ∀ (l : QL) (i : Nat) (x : QStep), s[i]? = some x → (srun l s)[i]? = some (stold (send l (s.take i)) x) := by
  induction s with
  | nil => intro l i x h; simp at h
  | cons y s ih =>
    intro l i x h
    cases i with
    | zero => simp only [List.getElem?_cons_zero, Option.some.injEq] at h; subst h; rfl
    | succ i => simp only [List.getElem?_cons_succ] at h; exact ih (snext l y) i x h
theorem stold_get {w : World} {v : Value} {steps : List QStep} (h : SToldAt w v steps) {i : Nat} {x : QStep} {pre : List QStep} (hx : steps[i]? = some x) (hpre : steps.take i = pre) :
    ∃ (ad : Addr) (c : Nat) (dv av : Value), v = .slice (some ad) steps.length c ∧
      (∀ (k : Nat) u, [.string (stold (send [] pre) x).v, .bool (stold (send [] pre) x).ok, dv, av, .int .i64 (stold (send [] pre) x).len][k]? = some u → w.cell? ((ad.add (i * 5)).add k) = some u) ∧
      RowAt nof w dv (stold (send [] pre) x).drained.length (strs (stold (send [] pre) x).drained) ∧ RowAt nof w av (stold (send [] pre) x).all.length (strs (stold (send [] pre) x).all) := by
  subst hpre
  obtain ⟨ts, ⟨A, c, rfl, hrow⟩, hl, ht, _⟩ := h
  have hr := srun_get steps [] i x hx
  have hlen : ∀ cs ∈ ts, cs.length = 5 := by
    intro cs hcs
    obtain ⟨j, hj⟩ := List.getElem?_of_mem hcs
    have hjl : j < steps.length := by have := (List.getElem?_eq_some_iff.1 hj).1; omega
    obtain ⟨dv, av, rfl, _⟩ := ht j cs _ hj (srun_get steps [] j _ (List.getElem?_eq_getElem hjl))
    rfl
  have hil : i < ts.length := by have := (List.getElem?_eq_some_iff.1 hx).1; omega
  have hi : ts[i]? = some ts[i] := List.getElem?_eq_getElem hil
  obtain ⟨dv, av, e, h1, _, h2, _⟩ := ht i _ _ hi hr
  rw [e] at hi
  obtain ⟨ad, rfl, _, _⟩ := hrow (i * 5 + 0) _ (flat_get 5 ts i _ 0 _ hlen hi rfl)
  refine ⟨ad, c, dv, av, rfl, fun k u hk => ?_, h1, h2⟩
  obtain ⟨ad', e', _, hc⟩ := hrow (i * 5 + k) u (flat_get 5 ts i _ k u hlen hi hk)
  cases e'
  rw [add_add]
  exact hc
theorem SToldAt.slice {w : World} {v : Value} {steps : List QStep} (h : SToldAt w v steps) : ∃ A c, v = .slice A steps.length c := by
  obtain ⟨ts, ⟨A, c, rfl, _⟩, _⟩ := h
  exact ⟨A, c, rfl⟩
theorem bo18 : bodyB Try.prog 18 = true := by kernel_rfl
/-- impl.Stack over a row of steps that is known. -/
theorem impls_in {X : Cx} {m : Mem} {r : Row} {steps : List QStep} {xs : List Value} {B n : Nat} (hx : xs = qcells steps) (hn : n = steps.length) (hm : ∀ x ∈ r.mem xs 25, x ∈ m) (hok : r.ok B 2 n xs) (hl : n ≤ 1000000) :
    ∀ w, Cl X m w → Calls Try.prog 18 #[r.val n] w fun e w' => ∃ v, e = .returned v ∧ Cl X m w' ∧ SToldAt w' v steps := fun w hw => by
  subst hx
  subst hn
  obtain ⟨A, c, e, h2⟩ := RowAt.of (S := nof) (e := 25) hw.1 hm hok (fun b _ h => h)
  have hst : QStepAt w A steps := fun j s hs => by
    obtain ⟨ad, e, _, _⟩ := h2 (j * 2 + 0) _ (qcells_get steps j s 0 _ hs rfl)
    refine ⟨ad, e, fun k v hk => ?_⟩
    obtain ⟨ad', e', _, h3⟩ := h2 (j * 2 + k) v (qcells_get steps j s k v hs hk)
    rw [e] at e'
    cases e'
    rw [add_add]
    exact h3
  rw [e]
  exact (impls_calls A c steps w hl hst).mono fun e w' ⟨v, ts, h1, h2, h3, h4, h5⟩ => ⟨v, h1, hw.below h2, ts, h3, h4, h5⟩
theorem gr22 : growB Try.prog 22 25 2 24 = true := by kernel_rfl
theorem und26 : Try.prog.underlying 26 = some (.slice 30) := by kernel_rfl
theorem sz30 : szB Try.prog 30 5 = true := by kernel_rfl
theorem si30 : (Try.prog.info? 30).map (·.size) = some 5 := by kernel_rfl
theorem bu25k (s : ByteArray) : Try.prog.built 25 [(1, .string s)] = some [.int .i64 0, .string s].toArray := by kernel_rfl
theorem bu25o (o : Int) : Try.prog.built 25 [(0, .int .i64 o)] = some [.int .i64 o, .string ⟨#[]⟩].toArray := by kernel_rfl
/-! ### laws of the model -/
theorem send_app (l : QL) (s t : List QStep) : send l (s ++ t) = send (send l s) t := by unfold send; rw [List.foldl_append]
theorem send_push (l : List ByteArray) : ∀ o : QL, send o (l.map qset) = o ++ l := by
  induction l with
  | nil => intro o; simp [send]
  | cons a l ih =>
    intro o
    show send (o ++ [a]) (l.map qset) = o ++ a :: l
    rw [ih]
    simp
theorem send_pop (o : QL) : ∀ j, j ≤ o.length → send o (List.replicate j ⟨1, ⟨#[]⟩⟩) = o.take (o.length - j) := by
  intro j
  induction j with
  | zero => intro _; simp [send]
  | succ j ih =>
    intro hj
    rw [List.replicate_succ', send_app, ih (by omega)]
    show spop (o.take (o.length - j)) = _
    unfold spop
    rw [List.dropLast_eq_take, List.take_take, List.length_take]
    congr 1
    omega
end Go.Proofs.Ytmmggofbpcmliaa.StkW
