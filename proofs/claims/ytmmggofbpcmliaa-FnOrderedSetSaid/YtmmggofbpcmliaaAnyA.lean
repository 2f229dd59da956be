/- The small logic: a region that draws and makes several variables: in whatever order they are made. -/
import Derived.Test.YtmmggofbpcmliaaRx
set_option linter.unusedVariables false
namespace Go.Rx
open Go.RowKit
def doneI : Nat → List Bool → List Nat
  | _, [] => []
  | i, b :: r => bif b then i :: doneI (i + 1) r else doneI (i + 1) r
def todoI : Nat → List Bool → List Nat
  | _, [] => []
  | i, b :: r => bif b then todoI (i + 1) r else i :: todoI (i + 1) r
def masks : Nat → List (List Bool)
  | 0 => [[]]
  | k + 1 => (masks k).map (true :: ·) ++ (masks k).map (false :: ·)
theorem mem_masks : ∀ (m : List Bool), m ∈ masks m.length
  | [] => by simp [masks]
  | true :: r => by simp [masks, mem_masks r]
  | false :: r => by simp [masks, mem_masks r]
theorem mem_todo : ∀ (m : List Bool) (i x : Nat), x ∈ todoI i m → ∃ j, x = i + j ∧ m[j]? = some false
  | [], i, x, h => by simp [todoI] at h
  | true :: r, i, x, h => by
    obtain ⟨j, e, hj⟩ := mem_todo r (i + 1) x (by simpa [todoI] using h)
    exact ⟨j + 1, by omega, by simpa using hj⟩
  | false :: r, i, x, h => by
    rcases List.mem_cons.1 (show x ∈ i :: todoI (i + 1) r by simpa [todoI] using h) with rfl | h
    · exact ⟨0, rfl, rfl⟩
    · obtain ⟨j, e, hj⟩ := mem_todo r (i + 1) x h
      exact ⟨j + 1, by omega, by simpa using hj⟩
theorem todo_ne : ∀ (m : List Bool) (i : Nat), m.all id = false → todoI i m ≠ []
  | [], _, h => by simp at h
  | true :: r, i, h => by simpa [todoI] using todo_ne r (i + 1) (by simpa using h)
  | false :: r, i, h => by simp [todoI]
def okA (ops : Array Oper) (n : Nat) (D : List Nat) (i0 k : Nat) : Bool :=
  (masks k).all fun m => (m.all id || Region.ready .any ops (lst n (D ++ doneI i0 m)) == todoI i0 m) &&
    (List.range k).all fun j => m.getD j true || ((lst n (D ++ doneI i0 m)).setIfInBounds (i0 + j) true).toList == (lst n (D ++ doneI i0 (m.set j true))).toList
def zipF (ts G : List Nat) : Fr := List.zipWith (fun t g => (t, .pointer (some ⟨g, 0, none⟩))) ts G
def zipM (G : List Nat) (zc : List Value) (ty : TypeId) : Mem := G.map fun g => (g, zc, .c ty)
structure TA (X : Cx) (f : Fr) (m : Mem) (ts : List Nat) (zc : List Value) (ty : TypeId) (mk : List Bool) (G : List Nat) (a : Act) (w : World) : Prop where
  st : St X f m a w
  sl : ∀ (j t g : Nat), ts[j]? = some t → mk[j]? = some true → G[j]? = some g → t < X.n ∧ a.tmps.getD t undef = .pointer (some ⟨g, 0, none⟩)
  bl : ∀ (j g : Nat), mk[j]? = some true → G[j]? = some g → BlkAt w g zc (.c ty) ∧ X.w0.heap.size ≤ g ∧ ∀ x ∈ m, x.1 ≠ g
  inj : ∀ (i j g : Nat), mk[i]? = some true → mk[j]? = some true → G[i]? = some g → G[j]? = some g → i = j
theorem look_app (l f : Fr) (t : Nat) (v : Value) : look (l ++ f) t = some v → (t, v) ∈ l ∨ look f t = some v := by
  induction l with
  | nil => intro h; exact .inr h
  | cons x l ih =>
    obtain ⟨u, y⟩ := x
    intro h
    simp only [List.cons_append, look] at h
    cases hb : Nat.beq u t with
    | true =>
      rw [hb] at h
      have := Nat.eq_of_beq_eq_true hb
      subst this
      simp only [cond_true, Option.some.injEq] at h
      subst h
      exact .inl (List.mem_cons_self ..)
    | false =>
      rw [hb] at h
      rcases ih h with h | h
      · exact .inl (List.mem_cons_of_mem _ h)
      · exact .inr h
theorem TA.full {X : Cx} {f : Fr} {m : Mem} {ts : List Nat} {zc : List Value} {ty : TypeId} {mk : List Bool} {G : List Nat} {a : Act} {w : World} (h : TA X f m ts zc ty mk G a w) (hk : ∀ j, j < G.length → mk[j]? = some true) : St X (zipF ts G ++ f) (zipM G zc ty ++ m) a w := by
  refine ⟨⟨h.st.agr.size, h.st.agr.defers, fun t v hv => ?_⟩, ⟨?_, fun x hx => ?_⟩, h.st.evo⟩
  · rcases look_app _ _ _ _ hv with hv | hv
    · unfold zipF at hv
      obtain ⟨j, hj⟩ := List.getElem?_of_mem hv
      rw [List.getElem?_zipWith] at hj
      split at hj
      · rename_i t' g ht hg
        cases hj
        exact h.sl j _ g ht (hk j (List.getElem?_eq_some_iff.1 hg).1) hg
      · cases hj
    · exact h.st.agr.slot t v hv
  · unfold zipM
    rw [List.map_append, List.map_map, List.nodup_append]
    refine ⟨?_, h.st.has.ne, fun x hx y hy => ?_⟩
    · rw [show ((fun x : Nat × List Value × Bk => x.1) ∘ fun g => (g, zc, Bk.c ty)) = id from rfl, List.map_id]
      refine List.pairwise_iff_getElem.2 fun i j hi hj hij e => ?_
      have := h.inj i j (G[i]) (hk i hi) (hk j hj) (List.getElem?_eq_getElem hi) (by rw [e]; exact List.getElem?_eq_getElem hj)
      omega
    · obtain ⟨g, hg, rfl⟩ := List.mem_map.1 hx
      obtain ⟨j, hj⟩ := List.getElem?_of_mem hg
      obtain ⟨z, hz, rfl⟩ := List.mem_map.1 hy
      exact fun e => ((h.bl j g (hk j (List.getElem?_eq_some_iff.1 hj).1) hj).2.2 z hz) e.symm
  · unfold zipM at hx
    rcases List.mem_append.1 hx with hx | hx
    · obtain ⟨g, hg, rfl⟩ := List.mem_map.1 hx
      obtain ⟨j, hj⟩ := List.getElem?_of_mem hg
      exact (h.bl j g (hk j (List.getElem?_eq_some_iff.1 hj).1) hj).1
    · exact h.st.has.blk x hx
section
variable {X : Cx} {P : Program} {Q : Exit → Act → World → Prop} {l : List Oper} {f : Fr} {m mS : Mem} {ts : List Nat} {z : Value} {ty : TypeId} {i0 : Nat} {D : List Nat} {g' : Nat}
theorem any_allocs (hok : okA l.toArray l.length D i0 ts.length = true) (hf : ∀ x ∈ f, x.1 ∉ ts) (hnd : ts.Nodup) (htn : ∀ t ∈ ts, t < X.n) (hS : ∀ w, Cl X m w → Cl X mS w) (hz : (P.info? ty).bind (·.zero) = some z)
    (hop : ∀ (j t : Nat), ts[j]? = some t → ∃ ty' pos af, l[i0 + j]? = some ⟨some t, .alloc ty, ty', pos, af, none⟩)
    (h : ∀ G : List Nat, G.length = ts.length → (∀ g ∈ G, X.w0.heap.size ≤ g) → PJ X (WAny P l Q X mS g' (D ++ doneI i0 (List.replicate ts.length true))) (zipF ts G ++ f) (zipM G z.cells.toList ty ++ m)) :
    ∀ (c : Nat) (mk : List Bool) (G : List Nat) (a : Act) (w : World), mk.length = ts.length → G.length = ts.length → mk.count false = c → TA X f m ts z.cells.toList ty mk G a w →
      wpAnyH P .any l.toArray Q (Cl X mS) (g' + c) (lst l.length (D ++ doneI i0 mk)) a w := by
  intro c
  induction c with
  | zero =>
    intro mk G a w h1 h2 h3 T
    have hall : ∀ b ∈ mk, b = true := fun b hb => by
      cases b with
      | true => rfl
      | false => exact absurd hb (List.count_eq_zero.1 h3)
    have hm : mk = List.replicate ts.length true := by rw [← h1]; exact List.eq_replicate_iff.2 ⟨rfl, hall⟩
    have hk : ∀ j, j < G.length → mk[j]? = some true := fun j hj => by rw [hm, List.getElem?_replicate]; rw [if_pos (by omega)]
    rw [hm]
    refine ((h G h2 (fun g hg => ?_)).out a w (T.full hk)).out
    obtain ⟨j, hj⟩ := List.getElem?_of_mem hg
    exact (T.bl j g (hk j (List.getElem?_eq_some_iff.1 hj).1) hj).2.1
  | succ c ih =>
    intro mk G a w h1 h2 h3 T
    have hok1 := List.all_eq_true.1 hok mk (h1 ▸ mem_masks mk)
    simp only [Bool.and_eq_true, Bool.or_eq_true, beq_iff_eq, List.all_eq_true, List.mem_range] at hok1
    have hnall : mk.all id = false := by
      rw [Bool.eq_false_iff]
      intro ha
      have : mk.count false = 0 := List.count_eq_zero.2 fun hb => by have := List.all_eq_true.1 ha false hb; simp at this
      omega
    have hready : Region.ready .any l.toArray (lst l.length (D ++ doneI i0 mk)) = todoI i0 mk := by
      rcases hok1.1 with hb | hb
      · have : mk.all id = true := List.all_eq_true.2 hb
        rw [hnall] at this; cases this
      · exact hb
    refine wpAnyH_all hready (todo_ne mk i0 hnall) fun x hx => ?_
    obtain ⟨j, rfl, hj⟩ := mem_todo mk i0 x hx
    have hjl : j < ts.length := by have := (List.getElem?_eq_some_iff.1 hj).1; omega
    obtain ⟨t, ht⟩ : ∃ t, ts[j]? = some t := ⟨_, List.getElem?_eq_getElem hjl⟩
    obtain ⟨ty', pos, af, ho⟩ := hop j t ht
    have htm : t ∈ ts := List.mem_of_getElem? ht
    have hset : (lst l.length (D ++ doneI i0 mk)).setIfInBounds (i0 + j) true = lst l.length (D ++ doneI i0 (mk.set j true)) := by
      rcases hok1.2 j hjl with hb | hb
      · rw [List.getD_eq_getElem?_getD, hj] at hb; cases hb
      · exact Array.toList_inj.1 hb
    unfold wpOp
    rw [show l.toArray[i0 + j]? = some _ from (List.getElem?_toArray ..).trans ho]
    simp only
    rw [if_pos (by rfl)]
    refine .inl ?_
    have hrun : (execOp a.eval ⟨some t, .alloc ty, ty', pos, af, none⟩).run P w = .ok (.value (.pointer (some ⟨w.heap.size, 0, none⟩))) (w.alloc (.cells z.cells ty)) := by
      cases hq : P.info? ty with
      | none => simp [hq] at hz
      | some inf =>
        have hs : inf.zero = some z := by simpa [hq] using hz
        simp [execOp, Instr.alloc, zeroValue, typeInfo, hq, hs, newVar, newRow]
    unfold Oper.wp
    rw [hrun]
    have hpush := T.st.has.push z.cells.toList ty
    have hev := T.st.evo.push (.cells z.cells ty)
    have hcl : Cl X m (w.alloc (.cells z.cells ty)) := ⟨by simpa using hpush.sub (List.sublist_cons_self _ _), hev⟩
    refine ⟨hS _ hcl, ?_⟩
    rw [hset]
    have hput := T.st.agr.put (d := some t) (fun t' e => by cases e; exact htn t htm) (.pointer (some ⟨w.heap.size, 0, none⟩))
    refine ih (mk.set j true) (G.set j w.heap.size) _ _ (by simpa using h1) (by simpa using h2) ?_ ⟨⟨⟨hput.size, hput.defers, fun u v hv => ?_⟩, hcl.1, hcl.2⟩, fun i u g hu hm hg => ?_, fun i g hm hg => ?_, fun i i' g hm hm' hg hg' => ?_⟩
    · rw [List.count_set (h := (List.getElem?_eq_some_iff.1 hj).1)]
      have := (List.getElem?_eq_some_iff.1 hj).2
      simp [this, h3]
    · refine hput.slot u v ?_
      have hne : ¬ t = u := by
        rintro rfl
        have : ∃ y, (t, y) ∈ f := by
          rcases look_app f [] t v (by rw [List.append_nil]; exact hv) with h | h
          · exact ⟨v, h⟩
          · cases h
        obtain ⟨y, hy⟩ := this
        exact hf _ hy htm
      show (bif Nat.beq t u then _ else look f u) = some v
      rw [show Nat.beq t u = false from by cases hb : Nat.beq t u; rfl; exact absurd (Nat.eq_of_beq_eq_true hb) hne]
      exact hv
    · by_cases hij : j = i
      · subst hij
        rw [ht] at hu
        cases hu
        rw [List.getElem?_set_self (by omega)] at hg
        cases hg
        exact hput.slot t _ (by show (bif Nat.beq t t then _ else _) = _; rw [show Nat.beq t t = true from Nat.beq_refl t]; rfl)
      · rw [List.getElem?_set_ne hij] at hm hg
        obtain ⟨q1, q2⟩ := T.sl i u g hu hm hg
        have hne : ¬ t = u := by
          rintro rfl
          have h1 := (List.getElem?_eq_some_iff.1 ht).2
          have h2 := (List.getElem?_eq_some_iff.1 hu).2
          exact hij ((List.getElem_inj hnd).1 (h1.trans h2.symm))
        refine ⟨q1, ?_⟩
        rw [← q2]
        simp [Act.put, Array.getD_eq_getD_getElem?, Array.getElem?_setIfInBounds_ne hne]
    · by_cases hij : j = i
      · subst hij
        rw [List.getElem?_set_self (by omega)] at hg
        cases hg
        refine ⟨?_, T.st.evo.size, fun x hx => Nat.ne_of_lt (T.st.has.lt hx)⟩
        have := hpush.blk _ (List.mem_cons_self ..)
        simpa using this
      · rw [List.getElem?_set_ne hij] at hm hg
        obtain ⟨q1, q2, q3⟩ := T.bl i g hm hg
        refine ⟨q1.eq ?_, q2, q3⟩
        have := q1.lt
        show (w.heap.push _)[g]? = _
        simp [Array.getElem?_push, Nat.ne_of_lt this]
    · have key : ∀ i g, (mk.set j true)[i]? = some true → (G.set j w.heap.size)[i]? = some g → (i = j ∧ g = w.heap.size) ∨ (i ≠ j ∧ mk[i]? = some true ∧ G[i]? = some g ∧ g < w.heap.size) := by
        intro i g hm hg
        by_cases hij : j = i
        · subst hij
          rw [List.getElem?_set_self (by omega)] at hg
          cases hg
          exact .inl ⟨rfl, rfl⟩
        · rw [List.getElem?_set_ne hij] at hm hg
          exact .inr ⟨Ne.symm hij, hm, hg, (T.bl i g hm hg).1.lt⟩
      rcases key i g hm hg with ⟨e1, e2⟩ | ⟨e1, p1, p2, p3⟩ <;> rcases key i' g hm' hg' with ⟨e1', e2'⟩ | ⟨e1', p1', p2', p3'⟩
      · omega
      · omega
      · omega
      · exact T.inj i i' g p1 p1' p2 p2'
/-- Several variables are made, in whatever order. -/
theorem jallocs {g : Nat} (ts : List Nat) (D' : List Nat) (hok : okA l.toArray l.length D i0 ts.length = true) (hD : appO D (doneI i0 (List.replicate ts.length true)) = some D') (hg : Nat.beq (g' + ts.length) g = true) (hf : ∀ x ∈ f, x.1 ∉ ts) (hnd : ts.Nodup) (htn : ∀ t ∈ ts, t < X.n) (hS : ∀ w, Cl X m w → Cl X mS w) (hz : (P.info? ty).bind (·.zero) = some z)
    (hop : ∀ (j t : Nat), ts[j]? = some t → ∃ ty' pos af, l[i0 + j]? = some ⟨some t, .alloc ty, ty', pos, af, none⟩)
    (h : ∀ G : List Nat, G.length = ts.length → (∀ g ∈ G, X.w0.heap.size ≤ g) → PJ X (WAny P l Q X mS g' D') (zipF ts G ++ f) (zipM G z.cells.toList ty ++ m)) :
    PJ X (WAny P l Q X mS g D) f m := .of fun a w s => .of <| by
  obtain rfl := Nat.eq_of_beq_eq_true hg
  obtain rfl := appO_of hD
  have hd : ∀ (k i : Nat), doneI i (List.replicate k false) = [] := by
    intro k
    induction k with
    | zero => intro i; rfl
    | succ k ih => intro i; simpa [List.replicate_succ, doneI] using ih (i + 1)
  have := any_allocs hok hf hnd htn hS hz hop h ts.length (List.replicate ts.length false) (List.replicate ts.length 0) a w (by simp) (by simp) (by simp) ⟨s, fun j t g _ hm => (by rw [List.getElem?_replicate] at hm; split at hm <;> cases hm), fun j g hm => (by rw [List.getElem?_replicate] at hm; split at hm <;> cases hm), fun i j g hm => (by rw [List.getElem?_replicate] at hm; split at hm <;> cases hm)⟩
  rwa [hd, List.append_nil] at this
end
end Go.Rx
