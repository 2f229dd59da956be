/- The small logic: regions that draw, whose last operations alone change what the others read. -/
import Derived.Test.YtmmggofbpcmliaaRx
set_option linter.unusedVariables false
namespace Go.Rx
open Go.RowKit
def fullB (n : Nat) (l : Array Bool) : Bool := (List.range n).all fun k => l.getD k false
/-- What an operation waits for. -/
def preO (ops : Array Oper) (j : Nat) : List Nat := match ops[j]? with
  | some o => (o.after.toList.filter fun e => Region.binds .any e).map (·.on)
  | none => []
def ancs (ops : Array Oper) (j : Nat) : List Nat := (List.range ops.size).reverse.foldl (fun acc i => bif acc.contains i then acc ++ preO ops i else acc) (preO ops j)
/-- The operations from n on wait for all before them. -/
def laterB (n : Nat) (ops : Array Oper) : Bool := (List.range ops.size).all fun j => Nat.blt j n || (List.range n).all fun i => (ancs ops j).contains i
def Closed (ops : Array Oper) (l : Array Bool) : Prop := ∀ i, l.getD i false = true → ∀ k ∈ preO ops i, l.getD k false = true
def closedB (ops : Array Oper) (l : Array Bool) : Bool := (List.range ops.size).all fun i => !(l.getD i false) || (preO ops i).all fun k => l.getD k false
theorem closed_of {ops : Array Oper} {l : Array Bool} (h : closedB ops l = true) : Closed ops l := by
  intro i hi k hk
  unfold closedB at h
  rw [List.all_eq_true] at h
  rcases Nat.lt_or_ge i ops.size with hlt | hge
  · have h1 := h i (List.mem_range.2 hlt)
    rw [hi] at h1
    simp only [Bool.not_true, Bool.false_or] at h1
    exact List.all_eq_true.1 h1 k hk
  · unfold preO at hk
    rw [Array.getElem?_eq_none hge] at hk
    cases hk
theorem pre_ready {ops : Array Oper} {l : Array Bool} {j : Nat} (hj : j ∈ Region.ready .any ops l) : ∀ k ∈ preO ops j, l.getD k false = true := by
  obtain ⟨_, o, ho, hall⟩ := mem_ready.1 hj
  intro k hk
  unfold preO at hk
  rw [ho] at hk
  simp only [List.mem_map, List.mem_filter, Array.mem_toList_iff] at hk
  obtain ⟨e, ⟨he, hb⟩, rfl⟩ := hk
  exact hall e he hb
theorem Closed.set {ops : Array Oper} {l : Array Bool} {j : Nat} (h : Closed ops l) (hj : j ∈ Region.ready .any ops l) : Closed ops (l.setIfInBounds j true) := by
  intro i hi k hk
  by_cases e : j = i
  · subst e
    exact getD_set_true (pre_ready hj k hk)
  · rw [getD_set_ne false e] at hi
    exact getD_set_true (h i hi k hk)
theorem ancs_ready {ops : Array Oper} {l : Array Bool} {j : Nat} (h : Closed ops l) (hj : j ∈ Region.ready .any ops l) : ∀ k ∈ ancs ops j, l.getD k false = true := by
  unfold ancs
  have key : ∀ (xs : List Nat) (acc : List Nat), (∀ k ∈ acc, l.getD k false = true) → ∀ k ∈ xs.foldl (fun acc i => bif acc.contains i then acc ++ preO ops i else acc) acc, l.getD k false = true := by
    intro xs
    induction xs with
    | nil => intro acc ha; exact ha
    | cons x xs ih =>
      intro acc ha
      refine ih _ ?_
      intro k hk
      dsimp only at hk
      cases hc : acc.contains x with
      | false => rw [hc] at hk; exact ha k hk
      | true =>
        rw [hc] at hk
        rcases List.mem_append.1 hk with hk | hk
        · exact ha k hk
        · exact h x (ha x (by simpa using hc)) k hk
  exact key _ _ (pre_ready hj)
/-- Whatever order comes up; S holds as long as not all of the first n operations have come up. -/
def wpAnyT (P : Program) (ops : Array Oper) (Q : Exit → Act → World → Prop) (S : World → Prop) (n : Nat) : Nat → Array Bool → Act → World → Prop
  | 0, listed, a, w => wpAny P .any ops Q 0 listed a w
  | fuel + 1, listed, a, w => if fullB n listed = true then wpAny P .any ops Q (fuel + 1) listed a w else
    (Region.ready .any ops listed = [] → Q .normal a w) ∧
    ∀ i ∈ Region.ready .any ops listed, wpOp P ops Q i (fun a' w' => S w' ∧ wpAnyT P ops Q S n fuel (listed.setIfInBounds i true) a' w') a w
section
variable {P : Program} {ops : Array Oper} {Q : Exit → Act → World → Prop} {S : World → Prop} {n : Nat}
theorem any_of_anyT : ∀ (fuel : Nat) (listed : Array Bool) (a : Act) (w : World), wpAnyT P ops Q S n fuel listed a w → wpAny P .any ops Q fuel listed a w
  | 0, _, _, _, h => h
  | fuel + 1, listed, a, w, h => by
    unfold wpAnyT at h
    split at h
    · exact h
    · exact ⟨h.1, fun i hi => wpOp_mono (fun a' w' h' => any_of_anyT fuel _ a' w' h'.2) (h.2 i hi)⟩
theorem full_not {i : Nat} {listed : Array Bool} (hin : i < n) (h : listed.getD i true = false) : ¬ fullB n listed = true := by
  intro hf
  unfold fullB at hf
  rw [List.all_eq_true] at hf
  have h1 := hf i (List.mem_range.2 hin)
  rcases Nat.lt_or_ge i listed.size with h' | h'
  · simp [h'] at h h1
    rw [h] at h1
    cases h1
  · simp [Array.getElem?_eq_none h'] at h1
theorem anyT_first {i : Nat} {oi : Oper} {v : Value} (hin : i < n) (hlat : laterB n ops = true) (hi : ops[i]? = some oi) (hsel : ∀ (j : Nat) (o : Oper) cs b, ops[j]? = some o → o.op ≠ .select cs b)
    (hQ : ∀ c a w, Q (.panic c) (a.put oi.dst v) w → Q (.panic c) a w) :
    ∀ (fuel : Nat) (listed : Array Bool) (a : Act) (w : World), Closed ops listed →
      (∀ j oj, ops[j]? = some oj → j ≠ i → listed.getD j true = false → (∀ e ∈ oj.after, Region.binds .any e = true → e.on ≠ i) → oi.apart ops oj = true) →
      i ∈ Region.ready .any ops listed → YieldsIf P ops S oi v a → S w →
      wpAnyT P ops Q S n fuel (listed.setIfInBounds i true) (a.put oi.dst v) w → wpAnyT P ops Q S n (fuel + 1) listed a w := by
  intro fuel
  induction fuel with
  | zero =>
    intro listed a w _ _ hr hy hS H
    unfold wpAnyT
    rw [if_neg (full_not hin (mem_ready.1 hr).1)]
    refine ⟨fun h => (by rw [h] at hr; cases hr), fun j hj => ?_⟩
    by_cases hji : j = i
    · subst hji; exact hy.wpOp hi hS ⟨hS, H⟩
    · have := ready_mono hj hji
      rw [H.1] at this
      cases this
  | succ fuel ih =>
    intro listed a w hcl hfree hr hy hS H
    unfold wpAnyT
    rw [if_neg (full_not hin (mem_ready.1 hr).1)]
    refine ⟨fun h => (by rw [h] at hr; cases hr), fun j hj => ?_⟩
    by_cases hji : j = i
    · subst hji; exact hy.wpOp hi hS ⟨hS, H⟩
    · obtain ⟨hjun, oj, hoj, hall⟩ := mem_ready.1 hj
      have hnot : ∀ e ∈ oj.after, Region.binds .any e = true → e.on ≠ i := fun e he hb heq => by
        have h1 := hall e he hb
        have h0 := (mem_ready.1 hr).1
        rw [heq] at h1
        rcases Nat.lt_or_ge i listed.size with h' | h'
        · simp [h'] at h0 h1; rw [h0] at h1; cases h1
        · simp [Array.getElem?_eq_none h'] at h1
      have hjn : j < n := by
        rcases Nat.lt_or_ge j n with h | h
        · exact h
        · exfalso
          unfold laterB at hlat
          rw [List.all_eq_true] at hlat
          have h1 := hlat j (List.mem_range.2 (Array.getElem?_eq_some_iff.1 hoj).1)
          have hb : Nat.blt j n = false := by
            cases hc : Nat.blt j n
            · rfl
            · exact absurd (Nat.blt_eq ▸ hc : j < n) (by omega)
          simp only [hb, Bool.false_or] at h1
          rw [List.all_eq_true] at h1
          have h2 := h1 i (List.mem_range.2 hin)
          have h3 := ancs_ready hcl hj i (by simpa using h2)
          have h0 := (mem_ready.1 hr).1
          rcases Nat.lt_or_ge i listed.size with h' | h'
          · simp [h'] at h0 h3; rw [h0] at h3; cases h3
          · simp [Array.getElem?_eq_none h'] at h3
      have hnf : ¬ fullB n (listed.setIfInBounds i true) = true := full_not hjn (by rw [getD_set_ne true (Ne.symm hji)]; exact hjun)
      unfold wpAnyT at H
      rw [if_neg hnf] at H
      have h1 := H.2 j (ready_mono hj hji)
      have h2 := wpOp_putIf hoj (hfree j oj hoj hji hjun hnot) (fun cs b => hsel i oi cs b hi) (fun cs b => hsel j oj cs b hoj) hQ hy h1
      have hfree' : ∀ k ok, ops[k]? = some ok → k ≠ i → (listed.setIfInBounds j true).getD k true = false →
          (∀ e ∈ ok.after, Region.binds .any e = true → e.on ≠ i) → oi.apart ops ok = true := fun k ok hk hki hun hno => by
        refine hfree k ok hk hki ?_ hno
        by_cases hjk : j = k
        · subst hjk; exact hjun
        · rw [getD_set_ne true hjk] at hun; exact hun
      refine wpOp_mono (fun a' w' h3 => ⟨h3.2.1, ih (listed.setIfInBounds j true) a' w' (hcl.set hj) hfree' (ready_mono hr (Ne.symm hji)) h3.1 h3.2.1 ?_⟩) h2
      rw [Array.setIfInBounds_comm _ _ hji]
      exact h3.2.2
theorem anyT_take {i : Nat} {oi : Oper} {v : Value} {fuel : Nat} {listed : Array Bool} {a : Act} {w : World} (hin : i < n) (hlat : laterB n ops = true) (hcl : Closed ops listed) (hi : ops[i]? = some oi)
    (hs : Region.noSelect ops = true) (hf : Region.free .any ops listed i = true) (hr : (Region.ready .any ops listed).contains i = true)
    (hQ : ∀ c a w, Q (.panic c) (a.put oi.dst v) w → Q (.panic c) a w) (hy : YieldsIf P ops S oi v a) (hS : S w)
    (h : wpAnyT P ops Q S n fuel (listed.setIfInBounds i true) (a.put oi.dst v) w) : wpAnyT P ops Q S n (fuel + 1) listed a w :=
  anyT_first hin hlat hi (Region.noSelect_spec hs) hQ fuel listed a w hcl (Region.free_spec hi hf) (by simpa using hr) hy hS h
theorem anyT_all {rs : List Nat} {fuel : Nat} {listed : Array Bool} {a : Act} {w : World} (hf : fullB n listed = false) (hr : Region.ready .any ops listed = rs) (hne : rs ≠ [])
    (h : ∀ i ∈ rs, wpOp P ops Q i (fun a' w' => S w' ∧ wpAnyT P ops Q S n fuel (listed.setIfInBounds i true) a' w') a w) : wpAnyT P ops Q S n (fuel + 1) listed a w := by
  unfold wpAnyT
  rw [if_neg (by rw [hf]; simp)]
  exact ⟨fun h0 => absurd (hr ▸ h0) hne, hr ▸ h⟩
theorem anyT_full {fuel : Nat} {listed : Array Bool} {a : Act} {w : World} (hf : fullB n listed = true) (h : wpAny P .any ops Q fuel listed a w) : wpAnyT P ops Q S n fuel listed a w := by
  cases fuel with
  | zero => exact h
  | succ fuel => unfold wpAnyT; rw [if_pos hf]; exact h
end
/-- Whatever order comes up from here on. -/
structure WAnyT (P : Program) (l : List Oper) (Q : Exit → Act → World → Prop) (X : Cx) (mS : Mem) (n g : Nat) (D : List Nat) (a : Act) (w : World) : Prop where
  of :: out : wpAnyT P l.toArray Q (Cl X mS) n g (lst l.length D) a w
section
variable {X : Cx} {P : Program} {Q : Exit → Act → World → Prop} {K : Act → World → Prop} {l rest : List Oper} {f : Fr} {m mS : Mem} {o : Oper} {n : Nat}
theorem anyT_of_stl {S : World → Prop} {g : Nat} (hlat : laterB n l.toArray = true) (hsel : Region.noSelect l.toArray = true) (hQ : ∀ c d v a w, Q (.panic c) (Act.put a d v) w → Q (.panic c) a w) :
    ∀ (ks D : List Nat) (os : List Oper) (a : Act) (w : World), Closed l.toArray (lst l.length D) → ks.all (fun i => Nat.blt i n) = true → pickO l ks = some os → pickB l.toArray ks (lst l.length D) = true → S w → stl P l.toArray S K os a w →
      (∀ a w, S w → K a w → wpAnyT P l.toArray Q S n g (lst l.length (D ++ ks)) a w) → wpAnyT P l.toArray Q S n (g + ks.length) (lst l.length D) a w := by
  intro ks
  induction ks with
  | nil =>
    intro D os a w _ _ ho _ hS h hK
    cases ho
    have := hK a w hS h
    simpa using this
  | cons i ks ih =>
    intro D os a w hcl hk ho hB hS h hK
    simp only [List.all_cons, Bool.and_eq_true] at hk
    simp only [pickO] at ho
    split at ho
    · rename_i r hr
      split at ho
      · rename_i o hn
        cases ho
        simp only [pickB, Bool.and_eq_true] at hB
        obtain ⟨v, hy, hrest⟩ := h
        have e1 : (lst l.length D).setIfInBounds i true = lst l.length (D ++ [i]) := by unfold lst; rw [List.foldl_append]; rfl
        have hi : l.toArray[i]? = some o := by rw [List.getElem?_toArray, ← nthO_eq]; exact hn
        refine anyT_take (Nat.blt_eq ▸ hk.1) hlat hcl hi hsel hB.1.2 hB.1.1 (fun c a w h => hQ c _ _ a w h) hy hS ?_
        rw [e1]
        refine ih (D ++ [i]) r _ w (e1 ▸ hcl.set (by simpa using hB.1.1)) hk.2 hr (by rw [← e1]; exact hB.2) hS hrest (fun a w hS hk => ?_)
        have := hK a w hS hk
        rwa [List.append_assoc]
      · cases ho
    · cases ho
/-- Operations that only read may come first. -/
theorem jaqT {g g' : Nat} {D D' : List Nat} {os : List Oper} (ks : List Nat) (hD : appO D ks = some D') (hS : ∀ w, Cl X m w → Cl X mS w) (hlat : laterB n l.toArray = true) (hcl : closedB l.toArray (lst l.length D) = true) (hkn : ks.all (fun i => Nat.blt i n) = true) (hsel : Region.noSelect l.toArray = true) (hB : pickB l.toArray ks (lst l.length D) = true) (hg : Nat.beq (g' + ks.length) g = true)
    (hQ : ∀ c d v a w, Q (.panic c) (Act.put a d v) w → Q (.panic c) a w) (ho : pickO l ks = some os)
    (h : JT true X P l.toArray Q (WIf X m (WAnyT P l Q X mS n g' D')) os f mS) : PJ X (WAnyT P l Q X mS n g D) f m := .of fun a w s => .of <| by
  obtain rfl := Nat.eq_of_beq_eq_true hg
  obtain rfl := appO_of hD
  have hm : Cl X m w := ⟨s.has, s.evo⟩
  have hm' := hS w hm
  have h1 : stl P l.toArray (Cl X mS) (fun a' w' => w' = w ∧ WIf X m (WAnyT P l Q X mS n g' (D ++ ks)) a' w') os a w := by
    have key : ∀ (os : List Oper) (a : Act) (K : Act → World → Prop), stl P l.toArray (Cl X mS) K os a w → stl P l.toArray (Cl X mS) (fun a' w' => w' = w ∧ K a' w') os a w := by
      intro os
      induction os with
      | nil => intro a K h; exact ⟨rfl, h⟩
      | cons o r ih => intro a K h; obtain ⟨v, hy, hr⟩ := h; exact ⟨v, hy, ih _ K hr⟩
    exact key os a _ (h.out a w ⟨s.agr, hm'.1, hm'.2⟩)
  exact anyT_of_stl hlat hsel hQ ks D os a w (closed_of hcl) hkn ho hB hm' h1 (fun a' w' _ hk => (hk.2.out (hk.1 ▸ hm)).out)
theorem ja1T {g g' : Nat} {D D' : List Nat} (i : Nat) (hD : appO D [i] = some D') (hg : Nat.beq (g' + 1) g = true) (hf : fullB n (lst l.length D) = false) (hr : Region.ready .any l.toArray (lst l.length D) = [i]) (ho : nthO l i = some o)
    (h : J false X P l.toArray Q (WKeep X mS (WAnyT P l Q X mS n g' D')) [o] f m) : PJ X (WAnyT P l Q X mS n g D) f m := .of fun a w s => .of <| by
  obtain rfl := Nat.eq_of_beq_eq_true hg
  obtain rfl := appO_of hD
  refine anyT_all hf hr (by simp) fun j hj => ?_
  obtain rfl : j = i := by simpa using hj
  refine wpOp_mono (fun a' w' h3 => ⟨h3.cl, ?_⟩) (jop ho h a w s)
  have := h3.out.out
  unfold lst at this ⊢
  rwa [List.foldl_append] at this
theorem ja2T {g g' : Nat} {D D' D'' : List Nat} {o' : Oper} (i i' : Nat) (hD : appO D [i] = some D') (hD' : appO D [i'] = some D'') (hg : Nat.beq (g' + 1) g = true) (hf : fullB n (lst l.length D) = false) (hr : Region.ready .any l.toArray (lst l.length D) = [i, i']) (ho : nthO l i = some o) (ho' : nthO l i' = some o')
    (h : J false X P l.toArray Q (WKeep X mS (WAnyT P l Q X mS n g' D')) [o] f m)
    (h' : J false X P l.toArray Q (WKeep X mS (WAnyT P l Q X mS n g' D'')) [o'] f m) : PJ X (WAnyT P l Q X mS n g D) f m := .of fun a w s => .of <| by
  obtain rfl := Nat.eq_of_beq_eq_true hg
  obtain rfl := appO_of hD
  obtain rfl := appO_of hD'
  refine anyT_all hf hr (by simp) fun j hj => ?_
  have e : j = i ∨ j = i' := by simpa using hj
  rcases e with rfl | rfl
  · refine wpOp_mono (fun a' w' h3 => ⟨h3.cl, ?_⟩) (jop ho h a w s)
    have := h3.out.out
    unfold lst at this ⊢
    rwa [List.foldl_append] at this
  · refine wpOp_mono (fun a' w' h3 => ⟨h3.cl, ?_⟩) (jop ho' h' a w s)
    have := h3.out.out
    unfold lst at this ⊢
    rwa [List.foldl_append] at this
/-- All of the first n operations have come up. -/
theorem jfullT {g : Nat} {D : List Nat} (hf : fullB n (lst l.length D) = true) (h : PJ X (WAny P l Q X [] g D) f m) : PJ X (WAnyT P l Q X mS n g D) f m := .of fun a w s => .of (anyT_full hf (wpAny_of_held _ _ _ _ (h.out a w s).out))
/-- A region that draws: whatever order comes up. mS: what its first n operations do not change. -/
theorem ranyT {id : Nat} (n : Nat) (mS : Mem) (hm : P.follows .mixedOrders = true) (h : PJ X (WAnyT P l Q X mS n l.length []) f m) : PJ X ((Code.region id l.toArray true).wp P Q) f m := .of fun a w s =>
  wp_region_any hm (any_of_anyT _ _ _ _ (h.out a _ ⟨s.agr, s.has.drawn _, s.evo.drawn _⟩).out)
end
end Go.Rx
