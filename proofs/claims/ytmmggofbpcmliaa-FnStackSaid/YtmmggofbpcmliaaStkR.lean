/- The small logic: ranges over a function; marks among the deferred calls; for every program. -/
import Derived.Test.YtmmggofbpcmliaaRx
import Derived.RangeFuncNested
import Derived.RangeFuncCalls
import Derived.RangeFuncLeaves
import Derived.BigFrameIn
set_option linter.unusedVariables false
namespace Go.Rx
open Go.RowKit
theorem rows_in {P : Program} {row : String} {args : Array Value} {w : World} {R R' : Value → World → Prop} (n l0 : Nat) (h : Rows P row args w R) (hr : ∀ v w', R v w' → R' v w') : RowsIn (Fence.wide.inRound l0) n P row args w R' :=
  fun c cs _ => let ⟨v, w', r, s⟩ := h c cs; ⟨v, w', hr _ _ r, stepsIn_wide.2 s⟩
/-- What is walked in the plain logic stands within a round. -/
theorem list_in {P : Program} {ops : Array Oper} {Q : Exit → Act → World → Prop} (n l0 : Nat) (hout : ¬ LetsOut Q) : ∀ (L : List Oper), (∀ o ∈ L, ∀ c, o.op ≠ .defer c) → ∀ a w, wpList P ops Q L a w → wpListIn (Fence.wide.inRound l0) n P ops Q L a w := by
  intro L
  induction L with
  | nil => intro _ a w h; exact h
  | cons o L ih =>
    intro hd a w h
    have ih' := ih (fun o' ho => hd o' (List.mem_cons_of_mem _ ho))
    unfold wpList at h
    unfold wpListIn
    split at h
    · rename_i hw
      rw [if_pos hw]
      rcases h with h | h
      · refine ⟨fun _ _ => trivial, ?_⟩
        rw [Oper.semAt_eq _ _ _ (hd o List.mem_cons_self)]
        unfold Oper.wp at h
        generalize (execOp a.eval o).run P w = r at h ⊢
        cases r with
        | ok x w' =>
          cases x with
          | value v => exact ih' _ _ h
          | skip => exact ih' _ _ h
          | defer d => exact ih' _ _ h
          | enter f args => exact ⟨fun h => by simp [Fence.wide] at h, (CallsIn.inRound l0 (callsIn_wide.2 h)).mono (fun e w'' he => by cases e <;> first | exact ih' _ _ he | exact he)⟩
          | row row args => exact ⟨fun h => by simp [Fence.wide] at h, rows_in _ _ h (fun v w'' he => ih' _ _ he)⟩
          | _ => exact h.elim
        | halt x w' => cases x <;> exact h
      · exact absurd h.2 hout
    · rename_i hw
      rw [if_neg hw]
      exact ⟨fun _ _ => trivial, ih' _ _ h⟩
def noDefer (o : Oper) : Bool := match o.op with
  | .defer _ => false
  | _ => true
theorem region_in {id : Nat} {L : List Oper} {X : Cx} {P : Program} {f : Fr} {m : Mem} {Q : Exit → Act → World → Prop} (n l0 : Nat) (hd : L.all noDefer = true) (hout : ¬ LetsOut Q) (h : J false X P L.toArray Q (Q .normal) L f m) {a : Act} {w : World} (s : St X f m a w) :
    (Code.region id L.toArray false).wpIn (Fence.wide.inRound l0) n P Q a w := by
  refine wpIn_region_lit (list_in n l0 hout L (fun o ho c e => ?_) a w ?_)
  · have := List.all_eq_true.1 hd o ho
    simp [noDefer, e] at this
  · have := h.out a w s
    rwa [then_self] at this
def markD (b : Nat) : Deferred := ⟨.collected b, #[]⟩
/-- Behind a range over a function: its markD D stands among the deferred calls. -/
def Cx.after (X : Cx) (D : Nat) (W : World) : Cx := ⟨X.n, markD D :: X.D, fun k => X.may k ∧ k ≠ D, W⟩
theorem ne_mark {m : Mem} {W : World} {D : Nat} (h : Has m W) (hD : W.heap[D]? = some (.deferred (some []))) {x : Nat × List Value × Bk} (hx : x ∈ m) : x.1 ≠ D := by
  intro e
  have hb := h.blk x hx
  rw [e] at hb
  cases hk : x.2.2 with
  | c t => rw [hk] at hb; have hb : W.heap[D]? = _ := hb; rw [hD] at hb; cases hb
  | m => rw [hk] at hb; obtain ⟨es, cl, h1, _⟩ := hb; rw [hD] at h1; cases h1
theorem Cl.afterUp {X : Cx} {m m' : Mem} {D : Nat} {W w' : World} (h : Cl X m W) (h' : Cl (X.after D W) m' w') : Cl X m' w' := by
  refine ⟨h'.1, h'.2.os.trans h.2.os, h'.2.tape.trans h.2.tape, h'.2.output.trans h.2.output, Nat.le_trans h.2.size h'.2.size, fun k hk hs => ?_⟩
  have h1 := h.2.size
  refine (h'.2.block k (show k < W.heap.size by omega) (fun hc => ?_)).trans (h.2.block k hk hs)
  rcases hc.1 with hc | hc
  · exact hs hc
  · omega
theorem mark_kept {X : Cx} {m' : Mem} {D : Nat} {W w' : World} (hD : W.heap[D]? = some (.deferred (some []))) (h' : Cl (X.after D W) m' w') : w'.heap[D]? = some (.deferred (some [])) :=
  (h'.2.block D (Array.getElem?_eq_some_iff.1 hD).1 (fun hc => hc.2 rfl)).trans hD
theorem cells_kept {w w' : World} {g : Nat} {c : List Value} {t : TypeId} {row : Option Nat} (hg : w.grownBy w' row) (hr : ∀ r, row = some r → ∃ o : Obj, w.heap[r]? = some o ∧ o.isCells = false) (h : w.heap[g]? = some (.cells c.toArray t (0, 0))) : w'.heap[g]? = some (.cells c.toArray t (0, 0)) := by
  refine (hg.block g (Array.getElem?_eq_some_iff.1 h).1 ?_).trans h
  intro e
  obtain ⟨o, ho, hc⟩ := hr g e.symm
  rw [h] at ho
  cases ho
  simp [Obj.isCells] at hc
theorem Has.own {m : Mem} {w w' : World} {row : Option Nat} (h : Has m w) (hk : ∀ x ∈ m, ∃ t, x.2.2 = Bk.c t) (hg : w.grownBy w' row) (hr : ∀ r, row = some r → ∃ o : Obj, w.heap[r]? = some o ∧ o.isCells = false) : Has m w' := by
  refine ⟨h.ne, fun x hx => ?_⟩
  obtain ⟨t, ht⟩ := hk x hx
  have hb := h.blk x hx
  rw [ht] at hb ⊢
  exact cells_kept hg hr hb
theorem Cl.own {X : Cx} {m : Mem} {w w' : World} {row : Option Nat} {B : Nat} (h : Cl X m w) (hk : ∀ x ∈ m, ∃ t, x.2.2 = Bk.c t) (hB : X.w0.heap.size ≤ B) (hg : w.grownBy w' row) (hr : ∀ r, row = some r → B ≤ r ∧ ∃ o : Obj, w.heap[r]? = some o ∧ o.isCells = false) : Cl X m w' := by
  refine ⟨h.1.own hk hg (fun r e => (hr r e).2), hg.os.trans h.2.os, hg.tape.trans h.2.tape, hg.output.trans h.2.output, Nat.le_trans h.2.size hg.size, fun k hk' hs => ?_⟩
  refine (hg.block k (Nat.lt_of_lt_of_le hk' h.2.size) ?_).trans (h.2.block k hk' hs)
  intro e
  have := (hr k e.symm).1
  omega
/-- What an iterator keeps: the blocks of T. -/
def KpT (T : Nat → Prop) (w w' : World) : Prop := ∀ k, T k → w'.heap[k]? = w.heap[k]?
theorem crange {X : Cx} {P : Program} {Q : Exit → Act → World → Prop} {f : Fr} {m : Mem} {α ι : Type} {g : Operand} {p1 p2 d ida idb ib : Nat} {ty : TypeId} {pos : String} {af : Array Edge} {L : List Oper} (gf : Nat) (lb : Array Value) (hgv : evF f g = some (.func (.func gf) #[] lb)) (eg : ∀ args w, (callFunc gf args).run P w = .ok (.enter gf args) w)
    (v1 v2 : α → Value) (T : Nat → Prop) (xs : List α) (h1 : p1 < X.n) (h2 : p2 < X.n) (hd : d < X.n)
    (hseq : ∀ w, Cl X m w → SeqStopsK Fence.wide 2 P gf lb (fun x => #[v1 x, v2 x]) (KpT T) (fun ys => ys = xs) (fun pre => pre <+: xs) xs.length w)
    (hT : ∀ w, Cl X m w → ∀ k, T k → k < w.heap.size)
    (M : List α → ι → Mem) (p : List α → ι → Prop) (hM : ∀ pre i, ∀ x ∈ M pre i, ∃ t, x.2.2 = Bk.c t) (Sb : List α → ι → Nat → Prop) (hSb : ∀ pre i k, p pre i → Sb pre i k → ∃ x ∈ M pre i, x.1 = k) (hTS : ∀ pre i W, p pre i → Has (M pre i) W → ∀ k, T k → ¬ Sb pre i k)
    (hSX : ∀ pre i k, p pre i → Sb pre i k → X.may k)
    (i0 : ι) (h0 : p [] i0) (hm0 : ∀ w, Cl X m w → Cl X (M [] i0) w)
    (hL : L.all noDefer = true)
    (body : ∀ pre x i W, p pre i → Cl X (M pre i) W → pre.length < xs.length → ∀ Q' : Exit → Act → World → Prop, ¬ LetsOut Q' → (∀ a' w' j, p (pre ++ [x]) j → Cl ⟨X.n, [], Sb pre i, W⟩ (M (pre ++ [x]) j) w' → Q' .normal a' w') →
      J false ⟨X.n, [], Sb pre i, W⟩ P L.toArray Q' (Q' .normal) L ((d, v2 x) :: (p2, v2 x) :: (p1, v1 x) :: f) (M pre i))
    (h : ∀ D W i, p xs i → Cl X (M xs i) W → W.heap[D]? = some (.deferred (some [])) → X.w0.heap.size ≤ D → PJ (X.after D W) (Q .normal) f (M xs i)) :
    PJ X ((Code.rangeFunc g #[p1, p2] (.region ida #[⟨some d, .assign (.tmp p2), ty, pos, af, none⟩] false) (.block ib (.region idb L.toArray false))).wp P Q) f m := .of fun a w s => by
  refine (wpIn_wide (n := 3)).1 ?_
  have hsz := s.evo.size
  refine wpIn_rangeFunc_ownH (w0 := w) rfl (by omega) (s.agr.eval hgv) trivial eg (hseq w ⟨s.has, s.evo⟩) (fun h k b hb => (k b hb).trans (h b hb)) (fun W l o o' hl _ _ _ k hk => ?_) (Below.refl _ _) (fun _ => rfl)
    (fun pre W => ∃ i, p pre i ∧ Cl X (M pre i) W) (fun _ _ _ => False) ?_ ?_ ⟨i0, h0, hm0 w ⟨s.has, s.evo⟩⟩ (fun x a' _ => Agr X.n [] ((d, v2 x) :: (p2, v2 x) :: (p1, v1 x) :: f) a') (fun _ _ _ _ _ _ hs _ _ => hs) ?_ ?_ ?_ ?_
  · have := hT w ⟨s.has, s.evo⟩ k hk
    exact World.putObj_heap_other (by omega)
  · rintro pre A B row ⟨i, hp, hc⟩ hg hr
    exact ⟨i, hp, hc.own (hM pre i) hsz hg hr⟩
  · exact fun _ _ _ _ _ hs _ _ => hs.elim
  · intro l pre x W K hi hK
    refine wpIn_region_lit (l := [⟨some d, .assign (.tmp p2), ty, pos, af, none⟩]) ?_
    refine wpListIn_plain rfl (fun K' hK' => ⟨fun _ _ => trivial, ?_⟩)
    rw [Oper.semAt_eq _ _ _ (by simp)]
    refine hK' _ _ (hK _ W (KeepsFrom.refl _ _) (fun _ _ => rfl) hi ?_)
    have hA : Agr X.n [] f { a with defers := [] } := ⟨s.agr.size, rfl, s.agr.slot⟩
    have hB : Agr X.n [] ((p2, v2 x) :: (p1, v1 x) :: f) ((({ a with defers := [] } : Act).put (some p1) (v1 x)).put (some p2) (v2 x)) := (hA.put (d := some p1) (fun t e => by cases e; exact h1) _).put (d := some p2) (fun t e => by cases e; exact h2) _
    have hE : (({ tmps := ((#[p1, p2] : Array Tmp).zip #[v1 x, v2 x]).foldl (fun t (p, v) => t.setIfInBounds p v) a.tmps, defers := [] } : Act)) = ((({ a with defers := [] } : Act).put (some p1) (v1 x)).put (some p2) (v2 x)) := by simp [Act.put]
    rw [hE]
    have hv : Act.eval ((({ a with defers := [] } : Act).put (some p1) (v1 x)).put (some p2) (v2 x)) (.tmp p2) = v2 x := hB.eval (by simp [evF, look])
    rw [hv]
    exact hB.put (d := some d) (fun t e => by cases e; exact hd) _
  · rintro l pre x a' W hwl ⟨r, hlr⟩ ⟨i, hp, hc⟩ hag hlt
    have hout : ¬ LetsOut (Exit.inBlock ib (ownPostG w.heap.size (KpT T) (fun pre W => ∃ i, p pre i ∧ Cl X (M pre i) W) (fun _ _ _ => False) (pre ++ [x]) W)) := fun ⟨_, _, h⟩ => h
    refine wpIn_block (region_in (X := ⟨X.n, [], Sb pre i, W⟩) _ l hL hout (body pre x i W hp hc hlt _ hout ?_) ⟨hag, hc.1, Evo.refl _ _⟩)
    intro a2 W2 j hp2 hc2
    refine ⟨⟨hc2.2.size, fun k o hk ho hco => ?_⟩, fun k hk => ?_, j, hp2, hc2.1, ?_⟩
    · refine (hc2.2.block k (Array.getElem?_eq_some_iff.1 ho).1 (fun hs => ?_)).trans ho
      obtain ⟨y, hy, rfl⟩ := hSb pre i k hp hs
      obtain ⟨t, ht⟩ := hM pre i y hy
      have hb := hc.1.blk y hy
      rw [ht] at hb
      have hb : W.heap[y.1]? = _ := hb
      rw [ho] at hb
      cases hb
      simp [Obj.isCells] at hco
    · have h1 := hT w ⟨s.has, s.evo⟩ k hk
      have h2 : k < W.heap.size ∨ W.heap.size ≤ k := Nat.lt_or_ge k _
      rcases h2 with h2 | h2
      · exact hc2.2.block k h2 (hTS pre i W hp hc.1 k hk)
      · have := hc.2.size
        have hwl' := (Array.getElem?_eq_some_iff.1 hlr).1
        omega
    · refine ⟨hc2.2.os.trans hc.2.os, hc2.2.tape.trans hc.2.tape, hc2.2.output.trans hc.2.output, Nat.le_trans hc.2.size hc2.2.size, fun k hk hs => ?_⟩
      refine (hc2.2.block k (Nat.lt_of_lt_of_le hk hc.2.size) (fun hb => ?_)).trans (hc.2.block k hk hs)
      rcases hSX pre i k hp hb with hx | hx
      · exact hs hx
      · omega
  · rintro D ys W hDw rfl ⟨i, hp, hc⟩ hDd
    refine (h D W i hp hc hDd (by omega)).out _ W ⟨⟨s.agr.size, ?_, s.agr.slot⟩, hc.1, Evo.refl _ _⟩
    show markD D :: a.defers = markD D :: X.D
    rw [s.agr.defers]
  · intro D c pre W _ _ hx
    exact hx.elim
/-- A loop whose rounds put marks among the deferred calls. -/
theorem cloopD {X : Cx} {P : Program} {Q : Exit → Act → World → Prop} {c : Code} {ι : Sort _} (F : ι → Fr) (M : ι → Mem) (S : ι → Nat → Prop) (D : ι → List Deferred) (p : Nat → ι → World → Prop) (n0 : Nat) (i0 : ι) (hD : X.D = D i0) (h0 : ∀ w, Cl X (M i0) w → p n0 i0 w)
    (round : ∀ n i w, p n i w → Has (M i) w → ∀ K : Act → World → Prop, (∀ k j a' w', k < n → Agr X.n (D j) (F j) a' → Has (M j) w' → p k j w' → K a' w') → PJ ⟨X.n, D i, S i, w⟩ (c.wp P (Exit.then K Q)) (F i) (M i)) :
    PJ X ((Code.loop c).wp P Q) (F i0) (M i0) := .of fun a w s => by
  refine wp_loop_ghost (fun n a w => ∃ i, p n i w ∧ St ⟨X.n, D i, S i, w⟩ (F i) (M i) a w) n0 ⟨i0, h0 w ⟨s.has, s.evo⟩, hD ▸ s.agr, s.has, Evo.refl _ _⟩ ?_
  rintro n a w ⟨i, hp, st⟩
  refine (round n i w hp st.has _ (fun k j a' w' hk hA hH hj => ?_)).out a w st
  exact ⟨k, hk, j, hj, hA, hH, Evo.refl _ _⟩
/-- Into a function whose rounds put marks among the deferred calls. -/
theorem enterM {P : Program} {k : Nat} {fn : Func} {c : Code} {vs : List Value} {w : World} {R : Ending → World → Prop} (S : Nat → Prop) (n : Nat) (m : Mem) (hf : P.funcs[k]? = some fn) (hb : fn.body = some c) (hn : fn.ntmps = n) (hl : Nat.ble vs.length n = true) (hm : Has m w)
    (h : PJ ⟨n, [], S, w⟩ (c.wp P (bodyPostM Fence.wide 3 P fn R)) (args0 0 vs) m) : Calls P k vs.toArray w R := by
  refine callsIn_wide.1 (callsIn_of_wp_marks (n := 3) hf hb trivial (wpIn_wide.2 (h.out _ _ ⟨⟨?_, rfl, fun j v hj => ?_⟩, hm, Evo.refl _ _⟩)) rfl)
  · have := Nat.le_of_ble_eq_true hl
    simp [hn]; omega
  · have h1 := look_args0 vs 0 j v hj
    have h2 : vs[j]? = some v := by simpa using h1.2
    have h3 : j < vs.length := by
      rcases Nat.lt_or_ge j vs.length with h | h
      · exact h
      · rw [List.getElem?_eq_none h] at h2; cases h2
    have := Nat.le_of_ble_eq_true hl
    refine ⟨by dsimp; omega, ?_⟩
    simp only [Array.getD_eq_getD_getElem?]
    rw [Array.getElem?_append_left (by simpa using h3)]
    simp [h2]
theorem leaves_marks {P : Program} {fn : Func} {tmps : Array Value} {v : Value} {R : Ending → World → Prop} (hr : ∀ w, (results fn tmps).run P w = .ok v w) : ∀ (Ds : List Nat) (w : World), Ds.Nodup → (∀ b ∈ Ds, w.heap[b]? = some (.deferred (some []))) → (∀ w'', Evo (· ∈ Ds) w w'' → R (.returned v) w'') → LeavesInM Fence.wide 3 P fn tmps R (Ds.map markD) .returning w := by
  intro Ds
  induction Ds with
  | nil => intro w _ _ h; exact ⟨v, hr w, h w (Evo.refl _ _)⟩
  | cons b Ds ih =>
    intro w hn hd h
    rw [List.nodup_cons] at hn
    refine ⟨by simp, .inl ⟨b, w.putObj b (.deferred none), rfl, run_takeDeferred (hd b List.mem_cons_self), ih _ hn.2 (fun k hk => ?_) (fun w'' he => h w'' ?_)⟩⟩
    · rw [World.putObj_heap_other (by rintro rfl; exact hn.1 hk)]
      exact hd k (List.mem_cons_of_mem _ hk)
    · have e1 : Evo (· ∈ b :: Ds) w (w.putObj b (.deferred none)) := ⟨rfl, rfl, rfl, by simp, fun k hk hs => World.putObj_heap_other (by rintro rfl; exact hs List.mem_cons_self)⟩
      exact e1.trans (he.mono (fun k _ hk => List.mem_cons_of_mem _ hk))
/-- The end, where marks stand among the deferred calls. -/
theorem retM {P : Program} {fn : Func} {X : Cx} {R : Ending → World → Prop} {f : Fr} {m : Mem} {t : Nat} {v : Value} (Ds : List Nat) (hD : X.D = Ds.map markD) (hn : Ds.Nodup) (hd : ∀ b ∈ Ds, X.w0.heap[b]? = some (.deferred (some [])) ∧ ¬ X.S b) (hr : fn.results = #[.tmp t]) (hv : look f t = some v)
    (h : ∀ w w'', Cl X m w → (∀ b ∈ Ds, w.heap[b]? = some (.deferred (some []))) → Evo (· ∈ Ds) w w'' → R (.returned v) w'') : PJ X (bodyPostM Fence.wide 3 P fn R .ret) f m := .of fun a w s => by
  have hdw : ∀ b ∈ Ds, w.heap[b]? = some (.deferred (some [])) := fun b hb => (s.evo.block b (Array.getElem?_eq_some_iff.1 (hd b hb).1).1 (hd b hb).2).trans (hd b hb).1
  show LeavesInM Fence.wide 3 P fn a.tmps R a.defers .returning w
  rw [s.agr.defers.trans hD]
  refine leaves_marks (fun w' => results_tmp hr _ _ _) Ds w hn hdw (fun w'' he => ?_)
  rw [(s.agr.slot t v hv).2]
  exact h w w'' ⟨s.has, s.evo⟩ hdw he
/-- What marks do not touch. -/
theorem cell_marks {Ds : List Nat} {w w' : World} (hd : ∀ b ∈ Ds, w.heap[b]? = some (.deferred (some []))) (he : Evo (· ∈ Ds) w w') {ad : Addr} {u : Value} (h : w.cell? ad = some u) : w'.cell? ad = some u := by
  refine cell_evo he (fun hb => ?_) h
  simp [World.cell?, hd _ hb] at h
theorem RowAt.marks {Ds : List Nat} {S S' : Nat → Prop} {w w' : World} {v : Value} {n : Nat} {l : List Value} (hd : ∀ b ∈ Ds, w.heap[b]? = some (.deferred (some []))) (he : Evo (· ∈ Ds) w w') (hs : ∀ b, b < w.heap.size → S' b → S b) (h : RowAt S w v n l) : RowAt S' w' v n l := by
  obtain ⟨A, c, e, h⟩ := h
  refine ⟨A, c, e, fun j u hj => ?_⟩
  obtain ⟨ad, h1, h2, h3⟩ := h j u hj
  have hlt : ad.block < w.heap.size := by
    rcases Nat.lt_or_ge ad.block w.heap.size with h | h
    · exact h
    · have : (ad.add j).block = ad.block := add_block _ _
      simp [World.cell?, this, Array.getElem?_eq_none h] at h3
  exact ⟨ad, h1, fun hc => h2 (hs _ hlt hc), cell_marks hd he h3⟩
end Go.Rx
