/- For the laws of stacks: what impl.Stack told, read again. -/
import Derived.Test.YtmmggofbpcmliaaImpS
import Derived.Test.YtmmggofbpcmliaaLawU
set_option linter.unusedVariables false
namespace Go.Proofs.Ytmmggofbpcmliaa.StkW
open Go.Rx hiding bt
open Go.RowKit Go.Proofs.Ytmmggofbpcmliaa.OrdW Go.Proofs.Ytmmggofbpcmliaa.QueW
/-- What impl.Stack told of steps. -/
def SToldAt (w : World) (v : Value) (steps : List QStep) : Prop := ∃ ts : List (List Value), RowAt nof w v steps.length ts.flatten ∧ ts.length = steps.length ∧ (∀ (i : Nat) cs t, ts[i]? = some cs → (srun [] steps)[i]? = some t → SCells nof w cs t) ∧ CapOk v
theorem srun_get (s : List QStep) : ∀ (l : QL) (i : Nat) (x : QStep), s[i]? = some x → (srun l s)[i]? = some (stold (send l (s.take i)) x) := by
  induction s with
  | nil => intro l i x h; simp at h
  | cons y s ih =>
    intro l i x h
    cases i with
    | zero => simp only [List.getElem?_cons_zero, Option.some.injEq] at h; subst h; rfl
    | succ i => simp only [List.getElem?_cons_succ] at h; exact ih (snext l y) i x h
theorem stold_get {w : World} {v : Value} {steps : List QStep} (h : SToldAt w v steps) {i : Nat} {x : QStep} {pre : List QStep} (hx : steps[i]? = some x) (hpre : steps.take i = pre) :
    ∃ (ad : Addr) (c : Nat) (dv av : Value), v = .slice (some ad) steps.length c ∧
      (∀ (k : Nat) u, [.string (stold (send [] pre) x).v, .bool (stold (send [] pre) x).ok, dv, av, .int .i64 (stold (send [] pre) x).len][k]? = some u → w.cell? ((ad.add (i * 5)).add k) = some u) ∧
      RowAt nof w dv (stold (send [] pre) x).drained.length (strs (stold (send [] pre) x).drained) ∧ RowAt nof w av (stold (send [] pre) x).all.length (strs (stold (send [] pre) x).all) := by
  subst hpre
  obtain ⟨ts, ⟨A, c, rfl, hrow⟩, hl, ht, _⟩ := h
  have hr := srun_get steps [] i x hx
  have hlen : ∀ cs ∈ ts, cs.length = 5 := by
    intro cs hcs
    obtain ⟨j, hj⟩ := List.getElem?_of_mem hcs
    have hjl : j < steps.length := by have := (List.getElem?_eq_some_iff.1 hj).1; omega
    obtain ⟨dv, av, rfl, _⟩ := ht j cs _ hj (srun_get steps [] j _ (List.getElem?_eq_getElem hjl))
    rfl
  have hil : i < ts.length := by have := (List.getElem?_eq_some_iff.1 hx).1; omega
  have hi : ts[i]? = some ts[i] := List.getElem?_eq_getElem hil
  obtain ⟨dv, av, e, h1, _, h2, _⟩ := ht i _ _ hi hr
  rw [e] at hi
  obtain ⟨ad, rfl, _, _⟩ := hrow (i * 5 + 0) _ (flat_get 5 ts i _ 0 _ hlen hi rfl)
  refine ⟨ad, c, dv, av, rfl, fun k u hk => ?_, h1, h2⟩
  obtain ⟨ad', e', _, hc⟩ := hrow (i * 5 + k) u (flat_get 5 ts i _ k u hlen hi hk)
  cases e'
  rw [add_add]
  exact hc
theorem SToldAt.slice {w : World} {v : Value} {steps : List QStep} (h : SToldAt w v steps) : ∃ A c, v = .slice A steps.length c := by
  obtain ⟨ts, ⟨A, c, rfl, _⟩, _⟩ := h
  exact ⟨A, c, rfl⟩
theorem bo18 : bodyB Try.prog 18 = true := by kernel_rfl
/-- impl.Stack over a row of steps that is known. -/
theorem impls_in {X : Cx} {m : Mem} {r : Row} {steps : List QStep} {xs : List Value} {B n : Nat} (hx : xs = qcells steps) (hn : n = steps.length) (hm : ∀ x ∈ r.mem xs 25, x ∈ m) (hok : r.ok B 2 n xs) (hl : n ≤ 1000000) :
    ∀ w, Cl X m w → Calls Try.prog 18 #[r.val n] w fun e w' => ∃ v, e = .returned v ∧ Cl X m w' ∧ SToldAt w' v steps := fun w hw => by
  subst hx
  subst hn
  obtain ⟨A, c, e, h2⟩ := RowAt.of (S := nof) (e := 25) hw.1 hm hok (fun b _ h => h)
  have hst : QStepAt w A steps := fun j s hs => by
    obtain ⟨ad, e, _, _⟩ := h2 (j * 2 + 0) _ (qcells_get steps j s 0 _ hs rfl)
    refine ⟨ad, e, fun k v hk => ?_⟩
    obtain ⟨ad', e', _, h3⟩ := h2 (j * 2 + k) v (qcells_get steps j s k v hs hk)
    rw [e] at e'
    cases e'
    rw [add_add]
    exact h3
  rw [e]
  exact (impls_calls A c steps w hl hst).mono fun e w' ⟨v, ts, h1, h2, h3, h4, h5⟩ => ⟨v, h1, hw.below h2, ts, h3, h4, h5⟩
theorem gr22 : growB Try.prog 22 25 2 24 = true := by kernel_rfl
theorem und26 : Try.prog.underlying 26 = some (.slice 30) := by kernel_rfl
theorem sz30 : szB Try.prog 30 5 = true := by kernel_rfl
theorem si30 : (Try.prog.info? 30).map (·.size) = some 5 := by kernel_rfl
theorem bu25k (s : ByteArray) : Try.prog.built 25 [(1, .string s)] = some [.int .i64 0, .string s].toArray := by kernel_rfl
theorem bu25o (o : Int) : Try.prog.built 25 [(0, .int .i64 o)] = some [.int .i64 o, .string ⟨#[]⟩].toArray := by kernel_rfl
/-! ### laws of the model -/
theorem send_app (l : QL) (s t : List QStep) : send l (s ++ t) = send (send l s) t := by unfold send; rw [List.foldl_append]
theorem send_push (l : List ByteArray) : ∀ o : QL, send o (l.map qset) = o ++ l := by
  induction l with
  | nil => intro o; simp [send]
  | cons a l ih =>
    intro o
    show send (o ++ [a]) (l.map qset) = o ++ a :: l
    rw [ih]
    simp
theorem send_pop (o : QL) : ∀ j, j ≤ o.length → send o (List.replicate j ⟨1, ⟨#[]⟩⟩) = o.take (o.length - j) := by
  intro j
  induction j with
  | zero => intro _; simp [send]
  | succ j ih =>
    intro hj
    rw [List.replicate_succ', send_app, ih (by omega)]
    show spop (o.take (o.length - j)) = _
    unfold spop
    rw [List.dropLast_eq_take, List.take_take, List.length_take]
    congr 1
    omega
/-! ### sources; what was told stands -/
theorem src_at {X : Cx} {m : Mem} {r : Row} {n c B z : Nat} {A : Option Addr} {xs : List Value} {e : TypeId} (hA : r.val n = .slice A n c) (hok : r.ok B z n xs) (hm : ∀ x ∈ r.mem xs e, x ∈ m) : Src X m A xs := by
  cases r with
  | nil =>
    obtain ⟨_, h2⟩ := hok
    subst h2
    exact src_nil _ _ _
  | «at» g cap rr =>
    cases hA
    refine fun w hw j u hj => ⟨_, rfl, ?_⟩
    have hb : w.heap[g]? = some (.cells (xs ++ rr).toArray e (0, 0)) := hw.1.blk (g, xs ++ rr, e) (hm _ (by simp [Row.mem]))
    rw [add_lit]
    simp only [World.cell?, hb]
    rw [List.getElem?_toArray, List.getElem?_append_left (List.getElem?_eq_some_iff.1 hj).1, hj]
    simp
theorem row_slice {r : Row} {n B z : Nat} {xs : List Value} (hok : r.ok B z n xs) : ∃ A c, r.val n = .slice A n c := by
  cases r with
  | nil => obtain ⟨rfl, _⟩ := hok; exact ⟨_, _, rfl⟩
  | «at» g cap rr => exact ⟨_, _, rfl⟩
theorem SToldAt.evo {S : Nat → Prop} {w w' : World} {v : Value} {steps : List QStep} (h : SToldAt w v steps) (he : Evo S w w') (hS : ∀ k, S k → False) : SToldAt w' v steps := by
  obtain ⟨ts, h1, h2, h3, h4⟩ := h
  have he' : Evo nof w w' := he.mono (fun k _ hk => (hS k hk).elim)
  exact ⟨ts, h1.of_evo he hS, h2, fun i cs t a b => (h3 i cs t a b).evo he' (fun _ _ h => h), h4⟩
def pops (j : Nat) : List QStep := List.replicate j ⟨1, ⟨#[]⟩⟩
theorem pops_len (j : Nat) : (pops j).length = j := List.length_replicate
theorem pops_succ (j : Nat) : pops (j + 1) = pops j ++ [⟨1, ⟨#[]⟩⟩] := List.replicate_succ'
theorem back_told (l : List ByteArray) (i : Nat) (hi : i < l.length) (x : ByteArray) (hx : l[l.length - 1 - i]? = some x) : ∃ t : STold, stold (send [] (l.map qset ++ pops i)) ⟨1, ⟨#[]⟩⟩ = t ∧ t.v = x ∧ t.ok = true ∧ t.len = l.length - 1 - i := by
  have h : send [] (l.map qset ++ pops i) = l.take (l.length - i) := by
    rw [send_app, send_push]
    exact send_pop l i (by omega)
  refine ⟨_, rfl, ?_⟩
  rw [h]
  have hl : (l.take (l.length - i)).length = l.length - i := by rw [List.length_take]; omega
  refine ⟨?_, ?_, ?_⟩
  · show qtop (l.take (l.length - i)) = x
    unfold qtop
    rw [List.getLast?_eq_getElem?, hl, List.getElem?_take, if_pos (by omega), show l.length - i - 1 = l.length - 1 - i by omega, hx]
    rfl
  · show decide (0 < (l.take (l.length - i)).length) = true
    rw [hl]
    exact decide_eq_true (by omega)
  · show (spop (l.take (l.length - i))).length = _
    unfold spop
    rw [List.length_dropLast, hl]
    omega
theorem drain_told (l : List ByteArray) : stold (send [] (l.map qset)) ⟨3, ⟨#[]⟩⟩ = ⟨⟨#[]⟩, false, l, [], 0⟩ := by
  have h : send [] (l.map qset) = l := by rw [send_push]; rfl
  rw [h]
  rfl
end Go.Proofs.Ytmmggofbpcmliaa.StkW
