/- For the laws of queues: a known row of steps; what impl.Queue told, read again; what the model answers. -/
import Derived.Test.YtmmggofbpcmliaaImpQ
import Derived.Test.YtmmggofbpcmliaaLawK
set_option linter.unusedVariables false
namespace Go.Proofs.Ytmmggofbpcmliaa.QueW
open Go.Rx hiding bt
open Go.RowKit Go.Proofs.Ytmmggofbpcmliaa.OrdW
def qcells (l : List QStep) : List Value := l.flatMap QStep.cells
theorem qcells_get : ∀ (l : List QStep) (j : Nat) (s : QStep) (k : Nat) (v : Value), l[j]? = some s → s.cells[k]? = some v → (qcells l)[j * 2 + k]? = some v := by
  intro l
  induction l with
  | nil => intro j s k v h; simp at h
  | cons y l ih =>
    intro j s k v h hk
    have hl : y.cells.length = 2 := rfl
    have hk3 : k < 2 := by
      have := (List.getElem?_eq_some_iff.1 hk).1
      simpa [QStep.cells] using this
    unfold qcells at ih ⊢
    rw [List.flatMap_cons]
    cases j with
    | zero =>
      simp only [List.getElem?_cons_zero, Option.some.injEq] at h
      subst h
      rw [List.getElem?_append_left (by omega)]
      simpa using hk
    | succ j =>
      simp only [List.getElem?_cons_succ] at h
      rw [List.getElem?_append_right (by omega), hl, show (j + 1) * 2 + k - 2 = j * 2 + k by omega]
      exact ih j s k v h hk
theorem qcells_snoc (l : List QStep) (s : QStep) : qcells (l ++ [s]) = qcells l ++ s.cells := by unfold qcells; simp
theorem qcells_app (l k : List QStep) : qcells (l ++ k) = qcells l ++ qcells k := by unfold qcells; simp
theorem qcell_one (s : QStep) : ∀ u ∈ s.cells, u.oneCell' = true := by
  intro u hu
  simp only [QStep.cells, List.mem_cons, List.not_mem_nil, or_false] at hu
  rcases hu with rfl | rfl <;> rfl
theorem qcells_one (l : List QStep) : ∀ u ∈ qcells l, u.oneCell' = true := by
  intro u hu
  unfold qcells at hu
  rw [List.mem_flatMap] at hu
  obtain ⟨s, _, h⟩ := hu
  exact qcell_one s u h
/-- What impl.Queue told of steps. -/
def QToldAt (sz : Int) (w : World) (v : Value) (steps : List QStep) : Prop := ∃ ts : List (List Value), RowAt nof w v steps.length ts.flatten ∧ ts.length = steps.length ∧ (∀ (i : Nat) cs t, ts[i]? = some cs → (qrun sz [] steps)[i]? = some t → QCells nof w cs t) ∧ CapOk v
theorem qrun_get (sz : Int) (s : List QStep) : ∀ (l : QL) (i : Nat) (x : QStep), s[i]? = some x → (qrun sz l s)[i]? = some (qtold sz (qend sz l (s.take i)) x) := by
  induction s with
  | nil => intro l i x h; simp at h
  | cons y s ih =>
    intro l i x h
    cases i with
    | zero => simp only [List.getElem?_cons_zero, Option.some.injEq] at h; subst h; rfl
    | succ i => simp only [List.getElem?_cons_succ] at h; exact ih (qnext sz l y) i x h
theorem qtold_get {sz : Int} {w : World} {v : Value} {steps : List QStep} (h : QToldAt sz w v steps) {i : Nat} {x : QStep} {pre : List QStep} (hx : steps[i]? = some x) (hpre : steps.take i = pre) :
    ∃ (ad : Addr) (c : Nat) (av : Value), v = .slice (some ad) steps.length c ∧
      (∀ (k : Nat) u, [.string (qtold sz (qend sz [] pre) x).v, .bool (qtold sz (qend sz [] pre) x).ok, av, .int .i64 (qtold sz (qend sz [] pre) x).len][k]? = some u → w.cell? ((ad.add (i * 4)).add k) = some u) ∧
      RowAt nof w av (qtold sz (qend sz [] pre) x).all.length (strs (qtold sz (qend sz [] pre) x).all) ∧ CapOk av := by
  subst hpre
  obtain ⟨ts, ⟨A, c, rfl, hrow⟩, hl, ht, _⟩ := h
  have hr := qrun_get sz steps [] i x hx
  have hlen : ∀ cs ∈ ts, cs.length = 4 := by
    intro cs hcs
    obtain ⟨j, hj⟩ := List.getElem?_of_mem hcs
    have hjl : j < steps.length := by have := (List.getElem?_eq_some_iff.1 hj).1; omega
    obtain ⟨av, rfl, _⟩ := ht j cs _ hj (qrun_get sz steps [] j _ (List.getElem?_eq_getElem hjl))
    rfl
  have hil : i < ts.length := by have := (List.getElem?_eq_some_iff.1 hx).1; omega
  have hi : ts[i]? = some ts[i] := List.getElem?_eq_getElem hil
  obtain ⟨av, e, h1, h2⟩ := ht i _ _ hi hr
  rw [e] at hi
  obtain ⟨ad, rfl, _, _⟩ := hrow (i * 4 + 0) _ (flat_get 4 ts i _ 0 _ hlen hi rfl)
  refine ⟨ad, c, av, rfl, fun k u hk => ?_, h1, h2⟩
  obtain ⟨ad', e', _, hc⟩ := hrow (i * 4 + k) u (flat_get 4 ts i _ k u hlen hi hk)
  cases e'
  rw [add_add]
  exact hc
theorem QToldAt.slice {sz : Int} {w : World} {v : Value} {steps : List QStep} (h : QToldAt sz w v steps) : ∃ A c, v = .slice A steps.length c := by
  obtain ⟨ts, ⟨A, c, rfl, _⟩, _⟩ := h
  exact ⟨A, c, rfl⟩
theorem QToldAt.cap {sz : Int} {w : World} {A : Option Addr} {n c : Nat} {steps : List QStep} (h : QToldAt sz w (.slice A n c) steps) : n ≤ c := by
  obtain ⟨_, _, _, _, A', n', c', e, hc⟩ := h
  cases e
  exact hc
theorem bo23 : bodyB Try.prog 23 = true := by kernel_rfl
/-- impl.Queue over a row of steps that is known. -/
theorem implq_in {X : Cx} {m : Mem} {r : Row} {sz : Int} {steps : List QStep} {xs : List Value} {B n : Nat} (hsz : 1 ≤ sz) (hx : xs = qcells steps) (hn : n = steps.length) (hm : ∀ x ∈ r.mem xs 35, x ∈ m) (hok : r.ok B 2 n xs) (hl : n ≤ 1000000) :
    ∀ w, Cl X m w → Calls Try.prog 23 #[.int .i64 sz, r.val n] w fun e w' => ∃ v, e = .returned v ∧ Cl X m w' ∧ QToldAt sz w' v steps := fun w hw => by
  subst hx
  subst hn
  obtain ⟨A, c, e, h2⟩ := RowAt.of (S := nof) (e := 35) hw.1 hm hok (fun b _ h => h)
  have hst : QStepAt w A steps := fun j s hs => by
    obtain ⟨ad, e, _, _⟩ := h2 (j * 2 + 0) _ (qcells_get steps j s 0 _ hs rfl)
    refine ⟨ad, e, fun k v hk => ?_⟩
    obtain ⟨ad', e', _, h3⟩ := h2 (j * 2 + k) v (qcells_get steps j s k v hs hk)
    rw [e] at e'
    cases e'
    rw [add_add]
    exact h3
  rw [e]
  exact (implq_calls sz hsz A c steps w hl hst).mono fun e w' ⟨v, ts, h1, h2, h3, h4, h5⟩ => ⟨v, h1, hw.below h2, ts, h3, h4, h5⟩
theorem gr33 : growB Try.prog 33 35 2 24 = true := by kernel_rfl
theorem und36 : Try.prog.underlying 36 = some (.slice 39) := by kernel_rfl
theorem sz39 : szB Try.prog 39 4 = true := by kernel_rfl
theorem si39 : (Try.prog.info? 39).map (·.size) = some 4 := by kernel_rfl
theorem bu35k (s : ByteArray) : Try.prog.built 35 [(1, .string s)] = some [.int .i64 0, .string s].toArray := by kernel_rfl
theorem bu35o (o : Int) : Try.prog.built 35 [(0, .int .i64 o)] = some [.int .i64 o, .string ⟨#[]⟩].toArray := by kernel_rfl
theorem bu35ok (o : Int) (s : ByteArray) : Try.prog.built 35 [(0, .int .i64 o), (1, .string s)] = some [.int .i64 o, .string s].toArray := by kernel_rfl
theorem und4 : Try.prog.underlying 4 = some .bool := by kernel_rfl
theorem one4 : oneB Try.prog 4 = true := by kernel_rfl
theorem strs_one (l : List ByteArray) : ∀ u ∈ strs l, u.oneCell' = true := strs_one1 l
/-! ### laws of the model -/
def qset (k : ByteArray) : QStep := ⟨0, k⟩
structure QInv (sz : Int) (l : QL) : Prop where
  nd : l.Nodup
  le : (l.length : Int) ≤ sz
theorem qadd_inv {sz : Int} {l : QL} (h : QInv sz l) (hsz : 1 ≤ sz) (s : ByteArray) : QInv sz (qadd sz s l) ∧ s ∈ qadd sz s l := by
  unfold qadd
  by_cases hin : inB l s = true
  · rw [if_pos hin]; exact ⟨h, (inB_iff l s).1 hin⟩
  · rw [if_neg hin]
    have hs : s ∉ l := fun c => hin ((inB_iff l s).2 c)
    have hcut : (qcut sz l).Sublist l ∧ ((qcut sz l).length : Int) + 1 ≤ sz := by
      unfold qcut
      split
      · rename_i e
        refine ⟨List.tail_sublist l, ?_⟩
        rw [List.length_tail]
        omega
      · rename_i e
        have := h.le
        exact ⟨List.Sublist.refl _, by omega⟩
    refine ⟨⟨?_, by rw [List.length_append]; simp only [List.length_cons, List.length_nil]; omega⟩, by simp⟩
    rw [List.nodup_append]
    exact ⟨h.nd.sublist hcut.1, by simp, fun a ha b hb => by simp only [List.mem_singleton] at hb; subst hb; exact fun e => hs (e ▸ hcut.1.subset ha)⟩
theorem qnext_inv {sz : Int} {l : QL} (h : QInv sz l) (hsz : 1 ≤ sz) (s : QStep) : QInv sz (qnext sz l s) := by
  unfold qnext
  split
  · exact (qadd_inv h hsz s.txt).1
  · exact h
theorem qend_inv {sz : Int} (hsz : 1 ≤ sz) (s : List QStep) : ∀ {l : QL}, QInv sz l → QInv sz (qend sz l s) := by
  induction s with
  | nil => intro l h; exact h
  | cons x s ih => intro l h; exact ih (qnext_inv h hsz x)
theorem qinv_nil {sz : Int} (hsz : 1 ≤ sz) : QInv sz [] := ⟨List.nodup_nil, by simp; omega⟩
theorem qend_app (sz : Int) (l : QL) (s t : List QStep) : qend sz l (s ++ t) = qend sz (qend sz l s) t := by unfold qend; rw [List.foldl_append]
theorem qadd_same {sz : Int} {l : QL} {s : ByteArray} (h : s ∈ l) : qadd sz s l = l := by unfold qadd; rw [if_pos ((inB_iff l s).2 h)]
/-- Texts that are all different: the newest stay. -/
theorem qend_diff (sz : Int) (hsz : 1 ≤ sz) (l : List ByteArray) (hn : l.Nodup) : ∀ j, j ≤ l.length → qend sz [] ((l.take j).map qset) = (l.take j).drop (j - sz.toNat) := by
  intro j
  induction j with
  | zero => intro _; simp [qend]
  | succ j ih =>
    intro hj
    have hlt : j < l.length := by omega
    obtain ⟨s, hs⟩ : ∃ x, l[j]? = some x := ⟨_, List.getElem?_eq_getElem hlt⟩
    have ih := ih (by omega)
    have ht := take_one hs
    rw [ht, List.map_append, qend_app, ih]
    show qadd sz s ((l.take j).drop (j - sz.toNat)) = _
    have hni : s ∉ l.take j := by
      intro hc
      obtain ⟨i, hi⟩ := List.getElem?_of_mem hc
      have hij : i < j := by have := (List.getElem?_eq_some_iff.1 hi).1; rw [List.length_take] at this; omega
      rw [List.getElem?_take, if_pos hij] at hi
      have h1 := (List.getElem?_eq_some_iff.1 hi).2
      have h2 := (List.getElem?_eq_some_iff.1 hs).2
      have := (List.getElem_inj hn).1 (h1.trans h2.symm)
      omega
    have hnd : s ∉ (l.take j).drop (j - sz.toNat) := fun hc => hni (List.mem_of_mem_drop hc)
    unfold qadd
    rw [if_neg (fun c => hnd ((inB_iff _ s).1 c))]
    have hlen : ((l.take j).drop (j - sz.toNat)).length = j - (j - sz.toNat) := by rw [List.length_drop, List.length_take]; omega
    have hlt2 : (l.take j).length = j := by rw [List.length_take]; omega
    by_cases hfull : (((l.take j).drop (j - sz.toNat)).length : Int) = sz
    · have hjs : sz.toNat ≤ j := by omega
      unfold qcut
      rw [if_pos hfull, List.tail_drop, show j - sz.toNat + 1 = j + 1 - sz.toNat by omega, List.drop_append_of_le_length (by rw [hlt2]; omega)]
    · have hjs : j < sz.toNat := by omega
      unfold qcut
      rw [if_neg hfull, show j - sz.toNat = 0 by omega, show j + 1 - sz.toNat = 0 by omega]
      rfl
end Go.Proofs.Ytmmggofbpcmliaa.QueW
