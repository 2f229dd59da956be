/- The small logic's rule for a region whose first operations only read and whose last ones stand in a fixed order; for every program. -/
import Derived.Test.YthjddnmfpdcjnaaDoorRxC
set_option linter.unusedVariables false
set_option linter.unusedSimpArgs false
namespace Go.Rx
open Go.RowKit

section
variable {P : Program} {ops : Array Oper} {md : Region.Mode} {C : World → Prop}

/-- The first n operations, in whatever order; then L. -/
def Head (P : Program) (md : Region.Mode) (ops : Array Oper) (C : World → Prop) (n : Nat) (L : Array Bool → Act → Prop) : Nat → Array Bool → Act → Prop
  | 0, listed, a => L listed a
  | k + 1, listed, a => Region.ready md ops listed ≠ [] ∧ ∀ i ∈ Region.ready md ops listed, i < n ∧ qOp P ops C i (Head P md ops C n L k (listed.setIfInBounds i true)) a

theorem any_of_head {n g : Nat} {L : Array Bool → Act → Prop} {Q : Exit → Act → World → Prop} (hL : ∀ listed a w, C w → L listed a → wpAny P md ops Q g listed a w) (k : Nat) :
    ∀ (listed : Array Bool) (a : Act) (w : World), C w → Head P md ops C n L k listed a → wpAny P md ops Q (k + g) listed a w := by
  induction k with
  | zero => intro listed a w hC h; rw [Nat.zero_add]; exact hL _ _ _ hC h
  | succ k ih =>
    intro listed a w hC h
    rw [Nat.add_right_comm]
    exact ⟨fun e => absurd e h.1, fun i hi => wpOp_of_qOp hC (fun a' w' hC' hh => ih _ a' w' hC' hh) (h.2 i hi).2⟩

/-- The lexically first of the head may be taken first. -/
theorem head_first {n i : Nat} {oi : Oper} {v : Value} {L : Array Bool → Act → Prop} (hi : ops[i]? = some oi) (hsel : ∀ (j : Nat) (o : Oper) cs b, ops[j]? = some o → o.op ≠ .select cs b)
    (hs : Region.sinkB md ops n = true) (hc : Region.chainB md ops n = true) (hn : n < ops.size) (hin : i < n)
    (hdone : ∀ listed a, L listed a → ∀ j ∈ Region.ready md ops listed, n ≤ j) (k : Nat) :
    ∀ (listed : Array Bool) (a : Act), HeadInv md ops n listed →
      (∀ j oj, ops[j]? = some oj → j ≠ i → listed.getD j true = false → (∀ e ∈ oj.after, Region.binds md e = true → e.on ≠ i) → oi.apart ops oj = true) →
      i ∈ Region.ready md ops listed → YieldsIn P ops C oi v a →
      Head P md ops C n L k (listed.setIfInBounds i true) (a.put oi.dst v) → Head P md ops C n L (k + 1) listed a := by
  induction k with
  | zero =>
    intro listed a inv _ hr hy H
    refine ⟨List.ne_nil_of_mem hr, fun j hj => ?_⟩
    have hjn : j < n := Nat.lt_of_not_le fun hle => tail_waits hs hc hn inv _ i rfl hin (mem_ready.1 hr).1 j hle hj
    refine ⟨hjn, ?_⟩
    by_cases e : j = i
    · subst e; exact hy.qOp hi H
    · exact absurd (hdone _ _ H j (ready_mono hj e)) (by omega)
  | succ k ih =>
    intro listed a inv hfree hr hy H
    have hun := (mem_ready.1 hr).1
    refine ⟨List.ne_nil_of_mem hr, fun j hj => ?_⟩
    have hjn : j < n := Nat.lt_of_not_le fun hle => tail_waits hs hc hn inv _ i rfl hin hun j hle hj
    refine ⟨hjn, ?_⟩
    by_cases e : j = i
    · subst e; exact hy.qOp hi H
    · obtain ⟨hjun, oj, hoj, hall⟩ := mem_ready.1 hj
      have h1 := (H.2 j (ready_mono hj e)).2
      have h2 := qOp_put hoj (hfree j oj hoj e hjun fun ed he hb heq => by
        have := hall ed he hb
        rw [heq, getD_both hun] at this
        cases this) (fun cs b => hsel i oi cs b hi) (fun cs b => hsel j oj cs b hoj) hy h1
      refine qOp_mono (fun a' h3 => ih (listed.setIfInBounds j true) a' (inv.set hj hjn) (fun q oq hq hqi hun' hno => hfree q oq hq hqi ?_ hno) (ready_mono hr (Ne.symm e)) h3.1 ?_) h2
      · by_cases hjq : j = q
        · subst hjq; exact hjun
        · rwa [getD_set_ne true hjq] at hun'
      · rw [Array.setIfInBounds_comm _ _ e]; exact h3.2

theorem head_lex {n g : Nat} {Lq : Act → Prop} (hsel : Region.noSelect ops = true) (hs : Region.sinkB md ops n = true) (hc : Region.chainB md ops n = true) (hn : n < ops.size) (l : List Oper) :
    ∀ (k : Nat) (listed : Array Bool) (a : Act), (∀ j, j < l.length → l[j]? = ops[k + j]?) → k + l.length = n → HeadInv md ops n listed →
    Region.lexHead md ops g l.length k listed = true → wpQuiet P ops C Lq l a →
    Head P md ops C n (fun listed' a' => Region.seqB md ops g n listed' = true ∧ Lq a') l.length listed a := by
  induction l with
  | nil =>
    intro k listed a _ hk _ hB h
    obtain rfl : k = n := by simpa using hk
    exact ⟨by simpa [Region.lexHead] using hB, h⟩
  | cons o l ih =>
    intro k listed a hl hk inv hB h
    have h0 : ops[k]? = some o := by simpa using (hl 0 (by simp)).symm
    simp only [List.length_cons, Region.lexHead, Bool.and_eq_true] at hB hk
    have hr : k ∈ Region.ready md ops listed := by simpa using hB.1.1
    obtain ⟨v, hy, hK⟩ := yieldsIn_of_qOp (K := wpQuiet P ops C Lq l) h0 (by unfold qOp; simp only [h0]; exact h)
    exact head_first h0 (Region.noSelect_spec hsel) hs hc hn (by omega) (fun listed' a' hL => seqB_ready hL.1) l.length listed a inv (Region.free_spec h0 hB.1.2) hr hy
      (ih (k + 1) _ _ (fun j hj => by have := hl (j + 1) (by simp; omega); simpa [Nat.add_assoc, Nat.add_comm 1 j] using this) (by omega) (inv.set hr (by omega)) hB.2 hK)

theorem wp_region_quiet_tail {id : Nat} {Q : Exit → Act → World → Prop} {a : Act} {w : World} {l : List Oper} (n : Nat) (hm : P.follows .mixedOrders = true) (hB : Region.lexTailB .any l.toArray n = true) (hC : C { w with drawn := w.drawn + 1 })
    (h : wpQuiet P l.toArray C (fun a' => ∀ w', C w' → wpList P l.toArray Q (l.drop n) a' w') (l.take n) a) : (Code.region id l.toArray true).wp P Q a w := by
  simp only [Region.lexTailB, Bool.and_eq_true, decide_eq_true_eq] at hB
  obtain ⟨⟨⟨⟨hsel, hn⟩, hs⟩, hc⟩, hlex⟩ := hB
  have hnl : n < l.length := by simpa using hn
  have htl : (l.take n).length = n := by simp; omega
  have hdl : (l.drop n).length = l.toArray.size - n := by simp
  have H := head_lex (md := .any) (g := l.toArray.size - n) hsel hs hc hn (l.take n) 0 (Array.replicate l.toArray.size false) a (fun j hj => by
    rw [htl] at hj; simp [hj]) (by simpa using htl)
    ⟨by simp, fun j oj _ hl => (by rw [getD_replicate_false] at hl; cases hl), fun t _ ht => getD_in (by simpa using ht) (getD_replicate_false _ _)⟩ (by rw [htl]; exact hlex) h
  have A := any_of_head (Q := Q) (g := l.toArray.size - n) (fun listed a' w' hC' hL => by
    have := wpAny_of_seq (md := .any) (Q' := Q) (l.drop n) n listed a' w' (fun j => by simp [List.getElem?_drop]) (by rw [hdl]; exact hL.1) (hL.2 w' hC')
    rwa [hdl] at this) _ _ _ _ hC H
  rw [htl, show n + (l.toArray.size - n) = l.toArray.size by omega] at A
  exact wp_region_any hm A
end

theorem rtail {X : Cx} {P : Program} {Q : Exit → Act → World → Prop} {l : List Oper} {f : Fr} {m : Mem} {id : Nat} (n : Nat) (hm : P.follows .mixedOrders = true) (hB : Region.lexTailB .any l.toArray n = true)
    (h : J true X P l.toArray Q (wpList P l.toArray Q (l.drop n)) (l.take n) f m) : PJ X ((Code.region id l.toArray true).wp P Q) f m := .of fun a w s =>
  wp_region_quiet_tail (C := Cl X m) n hm hB ⟨s.has.drawn _, s.evo.drawn _⟩ (h.out a s.agr)
end Go.Rx
