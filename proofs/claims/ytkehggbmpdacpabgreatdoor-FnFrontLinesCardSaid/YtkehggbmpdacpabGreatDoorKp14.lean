/- The page laws: texts that all of them use, joined (part 14): PgQ, Pg47, Pg48, Pg49, Pg50, Pg51, Pg52, Pg53, Lex8, Pg54. -/
import Derived.OrdersHeld
import Derived.Deep.Quiet
import Derived.Test.YtkehggbmpdacpabGreatDoorKp0
import Derived.Test.YtkehggbmpdacpabGreatDoorKp9
import Derived.Test.YtkehggbmpdacpabGreatDoorKp10
import Derived.Test.YtkehggbmpdacpabGreatDoorKp12
import Derived.Test.YtkehggbmpdacpabGreatDoorKp13
set_option maxRecDepth 100000
set_option linter.unusedVariables false
set_option linter.unusedSimpArgs false
set_option linter.unusedSectionVars false
namespace Go.Rx
open Go.RowKit
section
variable {P : Program} {ops : Array Oper} {Q : Exit → Act → World → Prop} {md : Region.Mode} {X : Cx} {mS : Mem}
def YldC (P : Program) (ops : Array Oper) (X : Cx) (mS : Mem) (o : Oper) (v : Value) (a : Act) : Prop :=
  (Region.wanted o (yielded ops a.tmps) = true ∧ ∀ E w, Cl X (mS ++ E) w → o.quietAt P a (Cl X (mS ++ E)) w v) ∨ (Region.wanted o (yielded ops a.tmps) = false ∧ v = undef)
theorem YldC.of_same {o : Oper} {v : Value} {a a' : Act} (hy : YldC P ops X mS o v a) (he : execOp a'.eval o = execOp a.eval o) (hw : Region.wanted o (yielded ops a'.tmps) = Region.wanted o (yielded ops a.tmps)) : YldC P ops X mS o v a' := by
  unfold YldC Oper.quietAt at *
  rw [he, hw]
  exact hy
theorem YldC.wpOp {i : Nat} {o : Oper} {v : Value} {a : Act} (hi : ops[i]? = some o) (hy : YldC P ops X mS o v a) {K : Act → World → Prop} {E : Mem} {w : World} (hC : Cl X (mS ++ E) w) (h : ∀ w', Cl X (mS ++ E) w' → K (a.put o.dst v) w') : wpOp P ops Q i K a w := by
  unfold Go.wpOp
  simp only [hi]
  rcases hy with ⟨hw, hv⟩ | ⟨hw, rfl⟩
  · simp only [hw, if_true]
    refine .inl ?_
    have h3 := hv E w hC
    unfold Oper.quietAt at h3
    unfold Oper.wp
    generalize (execOp a.eval o).run P w = r at *
    cases r with
    | ok n w' =>
      cases n <;> simp only [Oper.quietUpon] at h3 <;> simp only [Oper.upon]
      case value u =>
        obtain ⟨e1, e2⟩ := h3
        rw [e1, e2]
        exact h _ hC
      case skip =>
        obtain ⟨e1, e2⟩ := h3
        rw [e1, ← e2]
        exact h _ hC
      case enter f args =>
        obtain ⟨e1, hc⟩ := h3
        rw [e1]
        exact hc.mono fun e w'' ⟨he, hw''⟩ => by subst he; exact h _ hw''
    | halt x w' => simp only [Oper.quietUpon] at h3
  · simp only [hw, Bool.false_eq_true, if_false]
    exact h _ hC
theorem wpOp_putC {j : Nat} {oi oj : Oper} {v : Value} (hj : ops[j]? = some oj) (hap : oi.apart ops oj = true) (hsi : ∀ cs b, oi.op ≠ .select cs b) (hsj : ∀ cs b, oj.op ≠ .select cs b)
    (hQ : ∀ c a w, Q (.panic c) (a.put oi.dst v) w → Q (.panic c) a w) {K : Act → World → Prop} {a : Act} {w : World} (hy : YldC P ops X mS oi v a) (h : wpOp P ops Q j K (a.put oi.dst v) w) :
    wpOp P ops Q j (fun a' w' => YldC P ops X mS oi v a' ∧ K (a'.put oi.dst v) w') a w := by
  obtain ⟨h1, h2, h3⟩ := Oper.apart_spec hap
  have keep : ∀ (a : Act), YldC P ops X mS oi v a → ∀ u, YldC P ops X mS oi v (a.put oj.dst u) := fun a hy u => hy.of_same (execOp_put oi hsi a oj.dst u h3) (wanted_put oi a oj.dst u h3)
  have keepD : ∀ d, YldC P ops X mS oi v { a with defers := d :: a.defers } := fun d => hy.of_same rfl rfl
  unfold wpOp at *
  simp only [hj] at *
  rw [wanted_put oj a oi.dst v h1] at h
  split
  · rename_i hw
    simp only [hw, if_true] at h
    rcases h with h | ⟨hasks, hlets⟩
    case inr => exact .inr ⟨by unfold Oper.asks at *; rw [execOp_put oj hsj a oi.dst v h1] at hasks; exact hasks, hlets⟩
    refine .inl ?_
    unfold Oper.wp at *
    rw [execOp_put oj hsj a oi.dst v h1] at h
    generalize (execOp a.eval oj).run P w = r at *
    cases r with
    | ok n w' =>
      cases n <;> simp only [Oper.upon] at h ⊢
      case value u => exact ⟨keep a hy u, by rw [← Act.put_comm a v u h2]; exact h⟩
      case skip => exact ⟨keep a hy _, by rw [← Act.put_comm a v undef h2]; exact h⟩
      case defer d =>
        refine ⟨keep _ (keepD d) _, ?_⟩
        rw [← Act.put_comm _ v undef h2, ← Act.put_defers]
        exact h
      case enter f args =>
        refine Calls.mono h fun e w'' he => ?_
        cases e with
        | returned u => exact ⟨keep a hy u, by rw [← Act.put_comm a v u h2]; exact he⟩
        | panicked c => exact hQ _ _ _ he
        | outgrown => exact he
      case row row args => exact Rows.mono h fun u w'' he => ⟨keep a hy u, by rw [← Act.put_comm a v u h2]; exact he⟩
    | halt x w' =>
      cases x <;> simp only [Oper.upon] at h ⊢
      case panic u => exact hQ _ _ _ h
  · rename_i hw
    simp only [hw] at h
    exact ⟨keep a hy _, by rw [← Act.put_comm a v undef h2]; exact h⟩
def anyM (P : Program) (md : Region.Mode) (ops : Array Oper) (Q : Exit → Act → World → Prop) (X : Cx) (mS : Mem) : Nat → Array Bool → Act → Mem → Prop
  | 0, listed, a, E => Region.ready md ops listed = [] ∧ ∀ w, Cl X (mS ++ E) w → Q .normal a w
  | fuel + 1, listed, a, E => (Region.ready md ops listed = [] → ∀ w, Cl X (mS ++ E) w → Q .normal a w) ∧
    ∀ i ∈ Region.ready md ops listed, ∀ w, Cl X (mS ++ E) w → wpOp P ops Q i (fun a' w' => ∃ E', Cl X (mS ++ E') w' ∧ anyM P md ops Q X mS fuel (listed.setIfInBounds i true) a' E') a w
theorem wpAny_of_M : ∀ (fuel : Nat) (listed : Array Bool) (a : Act) (E : Mem) (w : World), Cl X (mS ++ E) w → anyM P md ops Q X mS fuel listed a E → wpAny P md ops Q fuel listed a w
  | 0, _, _, _, _, hC, h => ⟨h.1, h.2 _ hC⟩
  | fuel + 1, _, _, _, _, hC, h => ⟨fun h0 => h.1 h0 _ hC, fun i hi => wpOp_mono (fun a' w' ⟨E', hC', h'⟩ => wpAny_of_M fuel _ a' E' w' hC' h') (h.2 i hi _ hC)⟩
theorem anyM_first {i : Nat} {oi : Oper} {v : Value} (hi : ops[i]? = some oi) (hsel : ∀ (j : Nat) (o : Oper) cs b, ops[j]? = some o → o.op ≠ .select cs b) (hQ : ∀ c a w, Q (.panic c) (a.put oi.dst v) w → Q (.panic c) a w) :
    ∀ (fuel : Nat) (listed : Array Bool) (a : Act) (E : Mem),
      (∀ j oj, ops[j]? = some oj → j ≠ i → listed.getD j true = false → (∀ e ∈ oj.after, Region.binds md e = true → e.on ≠ i) → oi.apart ops oj = true) →
      i ∈ Region.ready md ops listed → YldC P ops X mS oi v a →
      anyM P md ops Q X mS fuel (listed.setIfInBounds i true) (a.put oi.dst v) E → anyM P md ops Q X mS (fuel + 1) listed a E := by
  intro fuel
  induction fuel with
  | zero =>
    intro listed a E hfree hr hy H
    refine ⟨fun h => (by rw [h] at hr; cases hr), fun j hj w hC => ?_⟩
    by_cases hji : j = i
    · subst hji; exact hy.wpOp hi hC (fun w' hC' => ⟨E, hC', H⟩)
    · have := ready_mono hj hji
      rw [H.1] at this
      cases this
  | succ fuel ih =>
    intro listed a E hfree hr hy H
    refine ⟨fun h => (by rw [h] at hr; cases hr), fun j hj w hC => ?_⟩
    by_cases hji : j = i
    · subst hji; exact hy.wpOp hi hC (fun w' hC' => ⟨E, hC', H⟩)
    · have h1 := H.2 j (ready_mono hj hji) w hC
      obtain ⟨hjun, oj, hoj, hall⟩ := mem_ready.1 hj
      have hnot : ∀ e ∈ oj.after, Region.binds md e = true → e.on ≠ i := fun e he hb heq => by
        have h1 := hall e he hb
        have h0 := (mem_ready.1 hr).1
        rw [heq] at h1
        rcases Nat.lt_or_ge i listed.size with h' | h'
        · simp [h'] at h0 h1; rw [h0] at h1; cases h1
        · simp [Array.getElem?_eq_none h'] at h1
      have h2 := wpOp_putC hoj (hfree j oj hoj hji hjun hnot) (fun cs b => hsel i oi cs b hi) (fun cs b => hsel j oj cs b hoj) hQ hy h1
      have hfree' : ∀ k ok, ops[k]? = some ok → k ≠ i → (listed.setIfInBounds j true).getD k true = false →
          (∀ e ∈ ok.after, Region.binds md e = true → e.on ≠ i) → oi.apart ops ok = true := fun k ok hk hki hun hno => by
        refine hfree k ok hk hki ?_ hno
        by_cases hjk : j = k
        · subst hjk; exact hjun
        · rw [getD_set_ne true hjk] at hun; exact hun
      refine wpOp_mono (fun a' w' ⟨h3, E', hC', h4⟩ => ⟨E', hC', ih (listed.setIfInBounds j true) a' E' hfree' (ready_mono hr (Ne.symm hji)) h3 ?_⟩) h2
      rw [Array.setIfInBounds_comm _ _ hji]
      exact h4
end
section
variable {qt : Bool} {X : Cx} {P : Program} {Q : Exit → Act → World → Prop} {l rest : List Oper} {ops : Array Oper} {f : Fr} {mS E : Mem} {o : Oper}
structure PM (P : Program) (l : List Oper) (Q : Exit → Act → World → Prop) (X : Cx) (mS : Mem) (g : Nat) (D : List Nat) (f : Fr) (E : Mem) : Prop where
  of :: out : ∀ a, Agr X.n X.D f a → anyM P .any l.toArray Q X mS g (lst l.length D) a E
structure MK (P : Program) (l : List Oper) (Q : Exit → Act → World → Prop) (X : Cx) (mS : Mem) (g : Nat) (D : List Nat) (a : Act) (w : World) : Prop where
  of :: out : ∃ E', Cl X (mS ++ E') w ∧ anyM P .any l.toArray Q X mS g (lst l.length D) a E'
def stq (P : Program) (ops : Array Oper) (X : Cx) (mS : Mem) (K : Act → Prop) : List Oper → Act → Prop
  | [], a => K a
  | o :: r, a => ∃ v, YldC P ops X mS o v a ∧ stq P ops X mS K r (a.put o.dst v)
structure JC (X : Cx) (P : Program) (ops : Array Oper) (mS : Mem) (K : Fr → Prop) (l : List Oper) (f : Fr) : Prop where
  of :: out : ∃ f', K f' ∧ ∀ a, Agr X.n X.D f a → stq P ops X mS (fun a' => Agr X.n X.D f' a') l a
theorem jcnil {K : Fr → Prop} (h : K f) : JC X P ops mS K [] f := ⟨f, h, fun a ha => ha⟩
theorem jcy {K : Fr → Prop} {d : Nat} {op : Op} {ty : TypeId} {pos : String} {af : Array Edge} {gd : Option (Nat × Bool)} {v : Value} (hy : ∀ E, Yl X P f (mS ++ E) ⟨some d, op, ty, pos, af, gd⟩ v) (hw : wantedF ops f ⟨some d, op, ty, pos, af, gd⟩ = some true) (hd : Nat.blt d X.n = true)
    (h : JC X P ops mS K rest ((d, v) :: f)) : JC X P ops mS K (⟨some d, op, ty, pos, af, gd⟩ :: rest) f := by
  obtain ⟨f', hK, h⟩ := h.out
  refine ⟨f', hK, fun a ha => ⟨v, .inl ⟨wanted_of hw ha, fun E w hC => ?_⟩, h _ (ha.put (d := some d) (dst_of (o := ⟨some d, op, ty, pos, af, gd⟩) hd) _)⟩⟩
  unfold Oper.quietAt
  rw [(hy E).out a w ⟨ha, hC.1, hC.2⟩]
  exact ⟨rfl, rfl⟩
theorem jcc {K : Fr → Prop} {k : Nat} {as_ : List Operand} {tys : Array TypeId} {d : Nat} {ty : TypeId} {pos : String} {af : Array Edge} {gd : Option (Nat × Bool)} {vs : List Value} {v : Value}
    (hb : bodyB P k = true) (hw : wantedF ops f ⟨some d, .call ⟨.value (.func k), as_.toArray, tys⟩, ty, pos, af, gd⟩ = some true) (hd : Nat.blt d X.n = true) (hv : callF f as_ = some vs)
    (hc : ∀ E w, Cl X (mS ++ E) w → Calls P k vs.toArray w fun e w' => e = .returned v ∧ Below w.heap.size w w')
    (h : JC X P ops mS K rest ((d, v) :: f)) : JC X P ops mS K (⟨some d, .call ⟨.value (.func k), as_.toArray, tys⟩, ty, pos, af, gd⟩ :: rest) f := by
  obtain ⟨f', hK, h⟩ := h.out
  refine ⟨f', hK, fun a ha => ⟨v, .inl ⟨wanted_of hw ha, fun E w hC => ?_⟩, h _ (ha.put (d := some d) (dst_of (o := ⟨some d, .call ⟨.value (.func k), as_.toArray, tys⟩, ty, pos, af, gd⟩) hd) _)⟩⟩
  unfold Oper.quietAt
  rw [run_call hb ha hv]
  exact ⟨rfl, (hc E w hC).mono fun e w' ⟨h1, h2⟩ => ⟨h1, hC.below h2⟩⟩
theorem any_of_stq {g : Nat} {K : Act → Prop} (hsel : Region.noSelect l.toArray = true) (hQ : ∀ c d v a w, Q (.panic c) (Act.put a d v) w → Q (.panic c) a w) :
    ∀ (ks D : List Nat) (os : List Oper) (a : Act), pickO l ks = some os → pickB l.toArray ks (lst l.length D) = true → stq P l.toArray X mS K os a →
      (∀ a, K a → anyM P .any l.toArray Q X mS g (lst l.length (D ++ ks)) a E) → anyM P .any l.toArray Q X mS (g + ks.length) (lst l.length D) a E := by
  intro ks
  induction ks with
  | nil =>
    intro D os a ho _ h hK
    cases ho
    have := hK a h
    simpa using this
  | cons i ks ih =>
    intro D os a ho hB h hK
    simp only [pickO] at ho
    split at ho
    · rename_i r hr
      split at ho
      · rename_i o hn
        cases ho
        simp only [pickB, Bool.and_eq_true] at hB
        obtain ⟨v, hy, hrest⟩ := h
        have e1 : (lst l.length D).setIfInBounds i true = lst l.length (D ++ [i]) := by unfold lst; rw [List.foldl_append]; rfl
        have hi : l.toArray[i]? = some o := by rw [List.getElem?_toArray, ← nthO_eq]; exact hn
        refine anyM_first hi (Region.noSelect_spec hsel) (fun c a w h => hQ c _ _ a w h) (g + ks.length) _ _ _ (Region.free_spec hi hB.1.2) (by simpa using hB.1.1) hy ?_
        rw [e1]
        refine ih (D ++ [i]) r _ hr (by rw [← e1]; exact hB.2) hrest (fun a hk => ?_)
        have := hK a hk
        rwa [List.append_assoc]
      · cases ho
    · cases ho
theorem mq {g g' : Nat} {D D' : List Nat} {os : List Oper} (ks : List Nat) (hD : appO D ks = some D') (hsel : Region.noSelect l.toArray = true) (hB : pickB l.toArray ks (lst l.length D) = true) (hg : Nat.beq (g' + ks.length) g = true)
    (hQ : ∀ c d v a w, Q (.panic c) (Act.put a d v) w → Q (.panic c) a w) (ho : pickO l ks = some os) (h : JC X P l.toArray mS (fun f' => PM P l Q X mS g' D' f' E) os f) : PM P l Q X mS g D f E := by
  obtain rfl := Nat.eq_of_beq_eq_true hg
  obtain rfl := appO_of hD
  obtain ⟨f', hK, h⟩ := h.out
  exact ⟨fun a ha => any_of_stq hsel hQ ks D os a ho hB (h a ha) (fun a' ha' => hK.out a' ha')⟩
theorem mop {g : Nat} {D D' : List Nat} {i : Nat} (hD : appO D [i] = some D') (ho : nthO l i = some o) (h : J false X P l.toArray Q (MK P l Q X mS g D') [o] f (mS ++ E)) : ∀ a, Agr X.n X.D f a → ∀ w, Cl X (mS ++ E) w →
    wpOp P l.toArray Q i (fun a' w' => ∃ E', Cl X (mS ++ E') w' ∧ anyM P .any l.toArray Q X mS g ((lst l.length D).setIfInBounds i true) a' E') a w := fun a ha w hC => by
  obtain rfl := appO_of hD
  refine wpOp_mono (fun a' w' h3 => ?_) (jop ho h a w ⟨ha, hC.1, hC.2⟩)
  obtain ⟨E', h4, h5⟩ := h3.out
  refine ⟨E', h4, ?_⟩
  unfold lst at h5 ⊢
  rwa [List.foldl_append] at h5
theorem me1 {g g' : Nat} {D D' : List Nat} (i : Nat) (hD : appO D [i] = some D') (hg : Nat.beq (g' + 1) g = true) (hr : Region.ready .any l.toArray (lst l.length D) = [i]) (ho : nthO l i = some o)
    (h : J false X P l.toArray Q (MK P l Q X mS g' D') [o] f (mS ++ E)) : PM P l Q X mS g D f E := .of fun a ha => by
  obtain rfl := Nat.eq_of_beq_eq_true hg
  refine ⟨fun h0 => absurd (hr ▸ h0) (by simp), fun j hj => ?_⟩
  rw [hr] at hj
  obtain rfl : j = i := by simpa using hj
  exact mop hD ho h a ha
theorem mkeep {g : Nat} {D : List Nat} {m : Mem} (E' : Mem) (hS : ∀ w, Cl X m w → Cl X (mS ++ E') w) (h : PM P l Q X mS g D f E') : PJ X (MK P l Q X mS g D) f m := .of fun a w s => ⟨E', hS w ⟨s.has, s.evo⟩, h.out a s.agr⟩
theorem mdone {g : Nat} {D : List Nat} (hr : Region.ready .any l.toArray (lst l.length D) = []) (h : PJ X (Q .normal) f (mS ++ E)) : PM P l Q X mS g D f E := .of fun a ha => by
  cases g with
  | zero => exact ⟨hr, fun w hC => h.out a w ⟨ha, hC.1, hC.2⟩⟩
  | succ g => exact ⟨fun _ w hC => h.out a w ⟨ha, hC.1, hC.2⟩, fun i hi => by rw [hr] at hi; cases hi⟩
theorem ranyM {id : Nat} {m : Mem} (mS E : Mem) (hm0 : m = mS ++ E) (hm : P.follows .mixedOrders = true) (h : PM P l Q X mS l.length [] f E) : PJ X ((Code.region id l.toArray true).wp P Q) f m := .of fun a w s => by
  subst hm0
  refine wp_region_any hm (wpAny_of_M _ _ a E _ ⟨s.has.drawn _, s.evo.drawn _⟩ ?_)
  have := h.out a s.agr
  have e : lst l.length [] = Array.replicate l.toArray.size false := by simp [lst]
  rw [e] at this
  simpa using this
end
end Go.Rx
namespace Go.Proofs.YtkehggbmpdacpabGreatDoor.Pg
open Go.Rx hiding bt
open Go.RowKit Go.Proofs.YtkehggbmpdacpabGreatDoor.Dec0 Go.Proofs.YtkehggbmpdacpabGreatDoor.Lex0
theorem bo57 : bodyB Tryz.prog 49 = true := by kernel_rfl
theorem ze42 : (Tryz.prog.info? 59).bind (·.zero) = some (.agg #[.int .i64 0, .int .i64 0, .string ⟨#[]⟩, .bool false, .int .u16 0]) := by kernel_rfl
theorem ag42 : aggB Tryz.prog 59 5 = true := by kernel_rfl
theorem si42 : (Tryz.prog.info? 59).map (·.size) = some 5 := by kernel_rfl
theorem bu42 (a b : Int) (s : ByteArray) (c : Bool) : Tryz.prog.built 59 [(0, .int .i64 a), (1, .int .i64 b), (2, .string s), (3, .bool c)] = some [.int .i64 a, .int .i64 b, .string s, .bool c, .int .u16 0].toArray := by kernel_rfl
theorem fb42_4 : fieldB Tryz.prog 59 4 = some 4 := by kernel_rfl
theorem si40 : (Tryz.prog.info? 57).map (·.size) = some 1 := by kernel_rfl
theorem gr115 : growB Tryz.prog 55 4 1 1 = true := by kernel_rfl
theorem wrap16 (n : Int) : IntKind.u16.wrap n = n % 65536 := by simp [IntKind.wrap, IntKind.bits, IntKind.signed]
theorem or_pow {a j : Nat} (ha : a < 2 ^ j) (hj : j < 15) : bits .or .u16 (a : Nat) ((2 ^ j : Nat) : Int) = ((a + 2 ^ j : Nat) : Int) := by
  have h1 : 2 ^ j < 2 ^ 15 := Nat.pow_lt_pow_right (by omega) hj
  have h2 : a ||| 2 ^ j = a + 2 ^ j := by
    have := Nat.two_pow_add_eq_or_of_lt ha 1
    rw [Nat.mul_one] at this
    rw [Nat.or_comm, ← this, Nat.add_comm]
  have h3 : a + 2 ^ j < 2 ^ 16 := by omega
  have e1 : (BitVec.ofInt 16 (a : Nat) ||| BitVec.ofInt 16 ((2 ^ j : Nat) : Int)).toNat = a + 2 ^ j := by
    rw [BitVec.toNat_or, BitVec.ofInt_natCast, BitVec.ofInt_natCast, BitVec.toNat_ofNat, BitVec.toNat_ofNat, Nat.mod_eq_of_lt (by omega), Nat.mod_eq_of_lt (by omega), h2]
  unfold bits
  simp only
  show IntKind.u16.wrap (((BitVec.ofInt 16 (a : Nat) ||| BitVec.ofInt 16 ((2 ^ j : Nat) : Int)).toNat : Nat) : Int) = _
  rw [e1]
  rw [wrap16]
  omega
theorem yshl {X : Cx} {P : Program} {f : Fr} {m : Mem} {ty : TypeId} {pos : String} {af : Array Edge} {gd : Option (Nat × Bool)} {d : Option Tmp} {x y : Operand} {k k' : IntKind} {i j c : Int} {t t' : TypeId} (hx : evF f x = some (.int k i)) (hy : evF f y = some (.int k' j)) (h0 : 0 ≤ j) (hc : k.wrap (i * 2 ^ min j.toNat k.bits) = c) : Yl X P f m ⟨d, .binOp .shl t x y t', ty, pos, af, gd⟩ (.int k c) := .of fun a w s => by
  subst hc
  have h1 : ¬ j < 0 := by omega
  simp [execOp, s.agr.eval hx, s.agr.eval hy, binOp, Op.shift, eqGuard, h1]
theorem shl_pow {j : Nat} (hj : j < 15) : IntKind.u16.wrap (1 * 2 ^ min ((j : Nat) : Int).toNat IntKind.u16.bits) = ((2 ^ j : Nat) : Int) := by
  have h1 : 2 ^ j < 2 ^ 15 := Nat.pow_lt_pow_right (by omega) hj
  have h2 : min ((j : Nat) : Int).toNat IntKind.u16.bits = j := by
    show min j 16 = j
    omega
  rw [h2, wrap16, Int.one_mul]
  have h3 : ((2 : Int) ^ j) = ((2 ^ j : Nat) : Int) := by rw [Int.natCast_pow]; rfl
  rw [h3]
  generalize 2 ^ j = p at h1 ⊢
  omega
def bsum : List Bool → Nat → Nat
  | [], _ => 0
  | b :: r, k => (if b then 2 ^ k else 0) + bsum r (k + 1)
theorem bsum_lt : ∀ (l : List Bool) (k : Nat), bsum l k + 2 ^ k ≤ 2 ^ (k + l.length)
  | [], k => by simp [bsum]
  | b :: r, k => by
    have h := bsum_lt r (k + 1)
    have e : k + (b :: r).length = k + 1 + r.length := by rw [List.length_cons]; omega
    rw [e]
    have h2 : 2 ^ (k + 1) = 2 ^ k + 2 ^ k := by rw [Nat.pow_succ]; omega
    show (if b then 2 ^ k else 0) + bsum r (k + 1) + 2 ^ k ≤ _
    generalize 2 ^ (k + 1 + r.length) = R at h ⊢
    generalize 2 ^ (k + 1) = p1 at h h2
    generalize 2 ^ k = p at h2 ⊢
    split <;> omega
theorem bsum_app : ∀ (l : List Bool) (b : Bool) (k : Nat), bsum (l ++ [b]) k = bsum l k + (if b then 2 ^ (k + l.length) else 0)
  | [], b, k => by simp [bsum]
  | c :: r, b, k => by
    show (if c then 2 ^ k else 0) + bsum (r ++ [b]) (k + 1) = (if c then 2 ^ k else 0) + bsum r (k + 1) + _
    rw [bsum_app r b (k + 1), List.length_cons, show k + 1 + r.length = k + (r.length + 1) by omega]
    omega
def answers (ty : Nat) (nw : Bool) : List Bool := [decide (ty = 18 ∨ ty = 17), decide (ty = 17), nw, decide (ty = 13), decide (ty = 14), decide (ty = 10 ∨ ty = 8), decide (ty = 11 ∨ ty = 9), decide (ty = 12), decide (ty = 15), decide (ty = 16), decide (ty = 10 ∨ ty = 11), decide (3 ≤ ty ∧ ty ≤ 6), decide (ty = 0 ∨ ty = 1), decide (ty = 1), decide (ty = 0)]
theorem bsum_bits (ty : Nat) (nw : Bool) : bsum (answers ty nw) 0 = bitsT ty nw := by
  have e1 : decide (ty = 10 ∨ ty = 8) = decide (ty = 8 ∨ ty = 10) := decide_eq_decide.2 Or.comm
  have e2 : decide (ty = 11 ∨ ty = 9) = decide (ty = 9 ∨ ty = 11) := decide_eq_decide.2 Or.comm
  unfold answers
  rw [e1, e2]
  unfold bsum bsum bsum bsum bsum bsum bsum bsum bsum bsum bsum bsum bsum bsum bsum bsum bitsT
  simp only [decide_eq_true_eq]
  simp only [Nat.add_assoc, Nat.add_zero]
theorem posW_calls {w : World} {s : T} {it : Itm} {cs : List Value} (hi : ItW w s it cs) (hn : it.segs.length ≤ 4294967296) : Calls Tryz.prog 56 #[.agg cs.toArray] w fun e w' => e = .returned (.int .i64 (posI it : Nat)) ∧ Below w.heap.size w w' := by
  obtain ⟨er, sg, hcs, h2, h3⟩ := hi
  subst hcs
  have he : er.oneCell' = true := by
    rcases h2 with ⟨_, rfl⟩ | ⟨_, v, rfl⟩ <;> rfl
  refine enter (fun _ => False) 14 [] Tryz.func56 rfl rfl rfl (vs := [.agg #[.int .i64 it.ty, er, .int .i64 it.low, .int .i64 it.high, sg, .int .u8 (fbN s (ipos it)), .bool it.str]]) (Has.nil _) ?_
  conv => arg 2; arg 2; whnf
  rcases h3 with ⟨hs, rfl⟩ | ⟨A, cap, hs, rfl, hA⟩
  · have hp : posI it = it.low := by unfold posI; rw [hs]
    rw [hp]
    repeat' (first | refine cseq ?_ | refine rtext ?_ | refine cfalse rfl ?_ | refine cskip ?_ | refine cret ?_ | refine jnil ?_ | (first | (show Jo _ (.fieldAddr _ _ _); refine jy (yfield rfl (by first | exact fb88_2' | exact fb88_4') rfl) rfl rfl ?_) | (show Jo _ (.load _ _); refine jy (yload (i := 0) rfl rfl rfl one3) rfl rfl ?_) | refine jas_ rfl rfl rfl ?_ | (show Jo _ (.binOp _ _ _ _ _); ((show Jo _ (.binOp .gtr _ _ _ _); refine jy (ygtr rfl rfl (by (exact decide_eq_false (by omega)))) rfl rfl ?_))) | (show Jo _ (.call _); ((show Jo _ (.call ⟨.builtin .len, _, _⟩); refine jy (ylenl rfl und86') rfl rfl ?_))) | (show Jo _ (.box _ _); refine jbox rfl rfl rfl (fun gb hT => ?_))))
    exact ret1 rfl rfl rfl (fun w' hw' => ⟨rfl, hw'.2.below (fun k _ h => h) (Nat.le_refl _)⟩)
  · obtain ⟨p, r, hsg⟩ : ∃ p r, it.segs = p :: r := by
      cases h : it.segs with
      | nil => exact absurd h hs
      | cons p r => exact ⟨p, r, rfl⟩
    have hp : posI it = p.1 := by unfold posI; rw [hsg]
    have hA0 : w.cell? (A.add 0) = some (.int .i64 p.1) := hA 0 _ (by rw [hsg]; rfl)
    have hlen : 0 < it.segs.length := by rw [hsg]; simp
    rw [hp]
    repeat' (first | refine cseq ?_ | refine rtext ?_ | refine ctrue rfl ?_ | refine cret ?_ | refine tret ?_ | refine jnil ?_ | (first | (show Jo _ (.fieldAddr _ _ _); refine jy (yfield rfl (by first | exact fb88_0' | exact fb88_4') rfl) rfl rfl ?_) | (show Jo _ (.load _ _); first | refine jy (yload (i := 0) rfl rfl rfl one3) rfl rfl ?_ | refine jy (yloadw rfl hA0 (fun h => h) one3) rfl rfl ?_) | refine jas_ rfl rfl rfl ?_ | (show Jo _ (.binOp _ _ _ _ _); ((show Jo _ (.binOp .gtr _ _ _ _); refine jy (ygtr rfl rfl (by (exact decide_eq_true (by omega)))) rfl rfl ?_))) | (show Jo _ (.call _); ((show Jo _ (.call ⟨.builtin .len, _, _⟩); refine jy (ylenl rfl und86') rfl rfl ?_))) | (show Jo _ (.box _ _); refine jbox rfl rfl rfl (fun gb hT => ?_)) | (show Jo _ (.indexAddr 76 _ _); refine jy (yat (p' := A.add 0) rfl rfl und86' sz126' (by omega) (by omega) rfl) rfl rfl ?_) | (show Jo _ (.fieldAddr 104 _ 0); refine jy (yfieldA (p' := A.add 0) rfl fb126_0' (by rw [add_add])) rfl rfl ?_)))
    exact ret1 rfl rfl rfl (fun w' hw' => ⟨rfl, hw'.2.below (fun k _ h => h) (Nat.le_refl _)⟩)
theorem fb88_1' : fieldB Tryz.prog 78 1 = some 1 := by kernel_rfl
theorem sz4 : szB Tryz.prog 4 1 = true := by kernel_rfl
theorem und115' : Tryz.prog.underlying 55 = some (.slice 4) := by kernel_rfl
def tiC (t : Ti) : List Value := [.int .i64 t.ty, .int .i64 t.pos, .string (ba t.text), .bool t.failed, .int .u16 t.is]
theorem retcP {P : Program} {fn : Func} {X : Cx} {R : Ending → World → Prop} {f : Fr} {m : Mem} {t ty g i : Nat} {c : List Value} {tt : TypeId} (hD : X.D = []) (hr : fn.results = #[.cell t ty]) (hv : Rx.look f t = some (.pointer (some ⟨g, 0, none⟩)))
    (hm : m[i]? = some (g, c, Bk.c tt)) (ht : aggB P ty c.length = true) (h : ∀ w, Cl X m w → R (.returned (.agg c.toArray)) w) : PJ X (bodyPost P fn R .ret) f m := .of fun a w s => by
  obtain ⟨h1, fs, h2⟩ := aggB_size ht
  refine bodyPost_ret (v := .agg c.toArray) ?_ (s.agr.defers.trans hD) (h w ⟨s.has, s.evo⟩)
  have e1 := (s.agr.slot t _ hv).2
  simp only [Array.getD_eq_getD_getElem?] at e1
  simp [results, hr, e1, asAddr, run_loadVar_row w g tt ty c.toArray (0, 0) _ (s.has.at hm) h2 rfl (by simpa using h1)]
def plM (g4 gb g5 gl : Nat) (it : Itm) (er sg : Value) (s : T) (L : List Bool) (j : Nat) : Mem := [(g4, [.int .i64 0, .int .i64 0, .string ⟨#[]⟩, .bool false, .int .u16 0], .c 59), (gb, [.int .i64 it.ty, er, .int .i64 it.low, .int .i64 it.high, sg, .int .u8 (fbN s (ipos it)), .bool it.str], .c 78), (g5, [.int .i64 it.ty, .int .i64 (posI it : Nat), .string (ba (valI s it)), .bool (!!it.err), .int .u16 (bsum (L.take j) 0 : Nat)], .c 59), (gl, L.map Value.bool, .c 4)]
set_option maxHeartbeats 4000000 in
theorem plain_calls {w : World} {s : T} {b o c : Nat} {it : Itm} {cs : List Value} (hT0 : Tab w) (hB : Byt w (.slice (some ⟨b, o, none⟩) s.length c) s) (hbw : b < w.heap.size) (hbig : s.length ≤ 4294967296) (hi : ItW w s it cs) (hin : InI s it) :
    Calls Tryz.prog 49 #[.agg cs.toArray, .slice (some ⟨b, o, none⟩) s.length c] w fun e w' => e = .returned (.agg (tiC (toldI envT s it)).toArray) ∧ Below w.heap.size w w' := by
  have hi0 := hi
  obtain ⟨er, sg, hcs, h2, h3⟩ := hi0
  subst hcs
  have hn32 : it.segs.length ≤ 4294967296 := Nat.le_trans hin.n hbig
  have hnil : nilI er = some (!it.err) := by
    rcases h2 with ⟨h, rfl⟩ | ⟨h, v, rfl⟩ <;> rw [h] <;> rfl
  have he : er.oneCell' = true := by
    rcases h2 with ⟨_, rfl⟩ | ⟨_, v, rfl⟩ <;> rfl
  have hsg := h3.one
  refine enter (fun _ => False) 66 [] Tryz.func49 rfl rfl rfl (vs := [.agg #[.int .i64 it.ty, er, .int .i64 it.low, .int .i64 it.high, sg, .int .u8 (fbN s (ipos it)), .bool it.str], .slice (some ⟨b, o, none⟩) s.length c]) (Has.nil _) ?_
  conv => arg 2; arg 2; whnf
  refine cseq ?_
  refine rtext ?_
  refine jbox rfl rfl rfl (fun gb hgb => ?_)
  refine jalloc ze42 rfl (fun g4 hg4 => ?_)
  refine jnil ?_
  refine tnorm ?_
  refine cseq ?_
  obtain ⟨iB, hiB⟩ : ∃ x : Nat × List Value × Bk, x = (gb, [.int .i64 it.ty, er, .int .i64 it.low, .int .i64 it.high, sg, .int .u8 (fbN s (ipos it)), .bool it.str], .c 78) := ⟨_, rfl⟩
  refine ranyM [(g4, [.int .i64 0, .int .i64 0, .string ⟨#[]⟩, .bool false, .int .u16 0], .c 59), (gb, [.int .i64 it.ty, er, .int .i64 it.low, .int .i64 it.high, sg, .int .u8 (fbN s (ipos it)), .bool it.str], .c 78)] [] rfl mixed ?_
  refine mq (g' := 2) [0, 1, 2, 3, 4, 5, 6, 7, 8, 9, 10] rfl (by kernel_rfl) (by kernel_rfl) rfl (fun _ d _ _ _ h => by cases d <;> exact h) rfl ?_
  repeat' (first | (show JC _ _ _ _ _ [] _; refine jcnil ?_) | (show JC _ _ _ _ _ (⟨_, .move _, _, _, _, _⟩ :: _) _; refine jcy (fun E => ymove rfl) rfl rfl ?_) | (show JC _ _ _ _ _ (⟨_, .fieldAddr 78 _ _, _, _, _, _⟩ :: _) _; first | refine jcy (fun E => yfield rfl fb88_0' rfl) rfl rfl ?_ | refine jcy (fun E => yfield rfl fb88_1' rfl) rfl rfl ?_) | (show JC _ _ _ _ _ (⟨_, .load 78 _, _, _, _, _⟩ :: _) _; refine jcy (fun E => yloads (i := 1) rfl rfl ag88) rfl rfl ?_) | (show JC _ _ _ _ _ (⟨_, .load 75 _, _, _, _, _⟩ :: _) _; refine jcy (fun E => yload (i := 1) rfl rfl rfl one85') rfl rfl ?_) | (show JC _ _ _ _ _ (⟨_, .load 69 _, _, _, _, _⟩ :: _) _; refine jcy (fun E => yload (i := 1) rfl rfl rfl one79) rfl rfl ?_) | (show JC _ _ _ _ _ (⟨_, .binOp .neq _ _ _ _, _, _, _, _⟩ :: _) _; refine jcy (fun E => yin rfl if79 hnil) rfl rfl ?_) | (show JC _ _ _ _ _ (⟨_, .build _ _, _, _, _, _⟩ :: _) _; refine jcy (fun E => ybuild rfl (bu42 it.ty (posI it : Nat) (ba (valI s it)) (!!it.err))) rfl rfl ?_) | (show JC _ _ _ _ _ (⟨_, .call ⟨.builtin .len, _, _⟩, _, _, _, _⟩ :: _) _; refine jcy (fun E => ylenl rfl und115') rfl rfl ?_) | (show JC _ _ _ _ _ (⟨_, .call ⟨.value (.func 56), _, _⟩, _, _, _, _⟩ :: _) _; refine jcc (vs := [.agg #[.int .i64 it.ty, er, .int .i64 it.low, .int .i64 it.high, sg, .int .u8 (fbN s (ipos it)), .bool it.str]]) bo70 rfl rfl rfl (fun E w' hC => posW_calls (hi.below (hC.2.below (fun k _ h => h) (Nat.le_refl _))) hn32) ?_) | (show JC _ _ _ _ _ (⟨_, .call ⟨.value (.func 57), _, _⟩, _, _, _, _⟩ :: _) _; refine jcc (vs := [.agg #[.int .i64 it.ty, er, .int .i64 it.low, .int .i64 it.high, sg, .int .u8 (fbN s (ipos it)), .bool it.str], .slice (some ⟨b, o, none⟩) s.length c]) bo71 rfl rfl rfl (fun E w' hC => valStr_calls (hB.below (hC.2.below (fun k _ h => h) (Nat.le_refl _)) (Nat.le_refl _)) (Nat.lt_of_lt_of_le hbw hC.2.size) hbig (hi.below (hC.2.below (fun k _ h => h) (Nat.le_refl _))) hin) ?_) | (show JC _ _ _ _ _ (⟨_, .call ⟨.value (.func 60), _, _⟩, _, _, _, _⟩ :: _) _; refine jcc (vs := [.agg #[.int .i64 it.ty, er, .int .i64 it.low, .int .i64 it.high, sg, .int .u8 (fbN s (ipos it)), .bool it.str], .slice (some ⟨b, o, none⟩) s.length c]) bo74 rfl rfl rfl (fun E w' hC => nonws_calls (hT0.below (hC.2.below (fun k _ h => h) (Nat.le_refl _))) (hB.below (hC.2.below (fun k _ h => h) (Nat.le_refl _)) (Nat.le_refl _)) (Nat.lt_of_lt_of_le hbw hC.2.size) hbig (hi.below (hC.2.below (fun k _ h => h) (Nat.le_refl _))) hin) ?_) | (show JC _ _ _ _ _ (⟨_, .call ⟨.value (.func 58), _, _⟩, _, _, _, _⟩ :: _) _; refine jcc (vs := [.agg #[.int .i64 it.ty, er, .int .i64 it.low, .int .i64 it.high, sg, .int .u8 (fbN s (ipos it)), .bool it.str]]) bq72 rfl rfl rfl (fun E w' hC => q72_calls hi.ic) ?_) | (show JC _ _ _ _ _ (⟨_, .call ⟨.value (.func 59), _, _⟩, _, _, _, _⟩ :: _) _; refine jcc (vs := [.agg #[.int .i64 it.ty, er, .int .i64 it.low, .int .i64 it.high, sg, .int .u8 (fbN s (ipos it)), .bool it.str]]) bq73 rfl rfl rfl (fun E w' hC => q73_calls hi.ic) ?_) | (show JC _ _ _ _ _ (⟨_, .call ⟨.value (.func 61), _, _⟩, _, _, _, _⟩ :: _) _; refine jcc (vs := [.agg #[.int .i64 it.ty, er, .int .i64 it.low, .int .i64 it.high, sg, .int .u8 (fbN s (ipos it)), .bool it.str]]) bq75 rfl rfl rfl (fun E w' hC => q75_calls hi.ic) ?_) | (show JC _ _ _ _ _ (⟨_, .call ⟨.value (.func 62), _, _⟩, _, _, _, _⟩ :: _) _; refine jcc (vs := [.agg #[.int .i64 it.ty, er, .int .i64 it.low, .int .i64 it.high, sg, .int .u8 (fbN s (ipos it)), .bool it.str]]) bq76 rfl rfl rfl (fun E w' hC => q76_calls hi.ic) ?_) | (show JC _ _ _ _ _ (⟨_, .call ⟨.value (.func 63), _, _⟩, _, _, _, _⟩ :: _) _; refine jcc (vs := [.agg #[.int .i64 it.ty, er, .int .i64 it.low, .int .i64 it.high, sg, .int .u8 (fbN s (ipos it)), .bool it.str]]) bq77 rfl rfl rfl (fun E w' hC => q77_calls hi.ic) ?_) | (show JC _ _ _ _ _ (⟨_, .call ⟨.value (.func 64), _, _⟩, _, _, _, _⟩ :: _) _; refine jcc (vs := [.agg #[.int .i64 it.ty, er, .int .i64 it.low, .int .i64 it.high, sg, .int .u8 (fbN s (ipos it)), .bool it.str]]) bq78 rfl rfl rfl (fun E w' hC => q78_calls hi.ic) ?_) | (show JC _ _ _ _ _ (⟨_, .call ⟨.value (.func 65), _, _⟩, _, _, _, _⟩ :: _) _; refine jcc (vs := [.agg #[.int .i64 it.ty, er, .int .i64 it.low, .int .i64 it.high, sg, .int .u8 (fbN s (ipos it)), .bool it.str]]) bq79 rfl rfl rfl (fun E w' hC => q79_calls hi.ic) ?_) | (show JC _ _ _ _ _ (⟨_, .call ⟨.value (.func 66), _, _⟩, _, _, _, _⟩ :: _) _; refine jcc (vs := [.agg #[.int .i64 it.ty, er, .int .i64 it.low, .int .i64 it.high, sg, .int .u8 (fbN s (ipos it)), .bool it.str]]) bq80 rfl rfl rfl (fun E w' hC => q80_calls hi.ic) ?_) | (show JC _ _ _ _ _ (⟨_, .call ⟨.value (.func 67), _, _⟩, _, _, _, _⟩ :: _) _; refine jcc (vs := [.agg #[.int .i64 it.ty, er, .int .i64 it.low, .int .i64 it.high, sg, .int .u8 (fbN s (ipos it)), .bool it.str]]) bq81 rfl rfl rfl (fun E w' hC => q81_calls hi.ic) ?_) | (show JC _ _ _ _ _ (⟨_, .call ⟨.value (.func 68), _, _⟩, _, _, _, _⟩ :: _) _; refine jcc (vs := [.agg #[.int .i64 it.ty, er, .int .i64 it.low, .int .i64 it.high, sg, .int .u8 (fbN s (ipos it)), .bool it.str]]) bq82 rfl rfl rfl (fun E w' hC => q82_calls hi.ic) ?_) | (show JC _ _ _ _ _ (⟨_, .call ⟨.value (.func 69), _, _⟩, _, _, _, _⟩ :: _) _; refine jcc (vs := [.agg #[.int .i64 it.ty, er, .int .i64 it.low, .int .i64 it.high, sg, .int .u8 (fbN s (ipos it)), .bool it.str]]) bq83 rfl rfl rfl (fun E w' hC => q83_calls hi.ic) ?_) | (show JC _ _ _ _ _ (⟨_, .call ⟨.value (.func 70), _, _⟩, _, _, _, _⟩ :: _) _; refine jcc (vs := [.agg #[.int .i64 it.ty, er, .int .i64 it.low, .int .i64 it.high, sg, .int .u8 (fbN s (ipos it)), .bool it.str]]) bq84 rfl rfl rfl (fun E w' hC => q84_calls hi.ic) ?_) | (show JC _ _ _ _ _ (⟨_, .call ⟨.value (.func 71), _, _⟩, _, _, _, _⟩ :: _) _; refine jcc (vs := [.agg #[.int .i64 it.ty, er, .int .i64 it.low, .int .i64 it.high, sg, .int .u8 (fbN s (ipos it)), .bool it.str]]) bq85 rfl rfl rfl (fun E w' hC => q85_calls hi.ic) ?_) | (show JC _ _ _ _ _ (⟨_, .call ⟨.value (.func 72), _, _⟩, _, _, _, _⟩ :: _) _; refine jcc (vs := [.agg #[.int .i64 it.ty, er, .int .i64 it.low, .int .i64 it.high, sg, .int .u8 (fbN s (ipos it)), .bool it.str]]) bq86 rfl rfl rfl (fun E w' hC => q86_calls hi.ic) ?_))
  refine me1 (g' := 1) 11 rfl rfl (by kernel_rfl) rfl ?_
  refine jalloc ze42 rfl (fun g5 hg5 => ?_)
  refine jnil ?_
  refine mkeep [(g5, [.int .i64 0, .int .i64 0, .string ⟨#[]⟩, .bool false, .int .u16 0], .c 59)] (fun w h => h.perm (List.perm_append_comm (l₁ := [_]))) ?_
  refine me1 (g' := 0) 12 rfl rfl (by kernel_rfl) rfl ?_
  refine jstores (i := 2) rfl rfl rfl rfl rfl si42 (.inr hg5) ?_
  refine jnil ?_
  refine mkeep [(g5, [.int .i64 it.ty, .int .i64 (posI it : Nat), .string (ba (valI s it)), .bool (!!it.err), .int .u16 0], .c 59)] (fun w h => h) ?_
  refine mdone (by kernel_rfl) ?_
  refine tnorm ?_
  refine cseq ?_
  refine cseq ?_
  obtain ⟨E5, hE5⟩ : ∃ x : Nat × List Value × Bk, x = (g5, [.int .i64 it.ty, .int .i64 (posI it : Nat), .string (ba (valI s it)), .bool (!!it.err), .int .u16 0], .c 59) := ⟨_, rfl⟩
  rw [← hE5]
  refine ranyM [(g4, [.int .i64 0, .int .i64 0, .string ⟨#[]⟩, .bool false, .int .u16 0], .c 59), (gb, [.int .i64 it.ty, er, .int .i64 it.low, .int .i64 it.high, sg, .int .u8 (fbN s (ipos it)), .bool it.str], .c 78)] [E5] rfl mixed ?_
  refine mq (g' := 2) [0, 1, 2, 3, 4, 5, 6, 7, 8, 9, 10, 11, 12, 13, 14, 15, 16, 17, 18, 19, 20, 21, 22, 23, 24, 25, 26, 27, 28, 29, 30, 33] rfl (by kernel_rfl) (by kernel_rfl) rfl (fun _ d _ _ _ h => by cases d <;> exact h) rfl ?_
  repeat' (first | (show JC _ _ _ _ _ [] _; refine jcnil ?_) | (show JC _ _ _ _ _ (⟨_, .move _, _, _, _, _⟩ :: _) _; refine jcy (fun E => ymove rfl) rfl rfl ?_) | (show JC _ _ _ _ _ (⟨_, .fieldAddr 78 _ _, _, _, _, _⟩ :: _) _; fail) | (show JC _ _ _ _ _ (⟨_, .load 78 _, _, _, _, _⟩ :: _) _; refine jcy (fun E => yloads (i := 1) rfl rfl ag88) rfl rfl ?_) | (show JC _ _ _ _ _ (⟨_, .load 75 _, _, _, _, _⟩ :: _) _; refine jcy (fun E => yload (i := 1) rfl rfl rfl one85') rfl rfl ?_) | (show JC _ _ _ _ _ (⟨_, .load 69 _, _, _, _, _⟩ :: _) _; refine jcy (fun E => yload (i := 1) rfl rfl rfl one79) rfl rfl ?_) | (show JC _ _ _ _ _ (⟨_, .binOp .neq _ _ _ _, _, _, _, _⟩ :: _) _; refine jcy (fun E => yin rfl if79 hnil) rfl rfl ?_) | (show JC _ _ _ _ _ (⟨_, .build _ _, _, _, _, _⟩ :: _) _; refine jcy (fun E => ybuild rfl (bu42 it.ty (posI it : Nat) (ba (valI s it)) (!!it.err))) rfl rfl ?_) | (show JC _ _ _ _ _ (⟨_, .call ⟨.builtin .len, _, _⟩, _, _, _, _⟩ :: _) _; refine jcy (fun E => ylenl rfl und115') rfl rfl ?_) | (show JC _ _ _ _ _ (⟨_, .call ⟨.value (.func 56), _, _⟩, _, _, _, _⟩ :: _) _; refine jcc (vs := [.agg #[.int .i64 it.ty, er, .int .i64 it.low, .int .i64 it.high, sg, .int .u8 (fbN s (ipos it)), .bool it.str]]) bo70 rfl rfl rfl (fun E w' hC => posW_calls (hi.below (hC.2.below (fun k _ h => h) (Nat.le_refl _))) hn32) ?_) | (show JC _ _ _ _ _ (⟨_, .call ⟨.value (.func 57), _, _⟩, _, _, _, _⟩ :: _) _; refine jcc (vs := [.agg #[.int .i64 it.ty, er, .int .i64 it.low, .int .i64 it.high, sg, .int .u8 (fbN s (ipos it)), .bool it.str], .slice (some ⟨b, o, none⟩) s.length c]) bo71 rfl rfl rfl (fun E w' hC => valStr_calls (hB.below (hC.2.below (fun k _ h => h) (Nat.le_refl _)) (Nat.le_refl _)) (Nat.lt_of_lt_of_le hbw hC.2.size) hbig (hi.below (hC.2.below (fun k _ h => h) (Nat.le_refl _))) hin) ?_) | (show JC _ _ _ _ _ (⟨_, .call ⟨.value (.func 60), _, _⟩, _, _, _, _⟩ :: _) _; refine jcc (vs := [.agg #[.int .i64 it.ty, er, .int .i64 it.low, .int .i64 it.high, sg, .int .u8 (fbN s (ipos it)), .bool it.str], .slice (some ⟨b, o, none⟩) s.length c]) bo74 rfl rfl rfl (fun E w' hC => nonws_calls (hT0.below (hC.2.below (fun k _ h => h) (Nat.le_refl _))) (hB.below (hC.2.below (fun k _ h => h) (Nat.le_refl _)) (Nat.le_refl _)) (Nat.lt_of_lt_of_le hbw hC.2.size) hbig (hi.below (hC.2.below (fun k _ h => h) (Nat.le_refl _))) hin) ?_) | (show JC _ _ _ _ _ (⟨_, .call ⟨.value (.func 58), _, _⟩, _, _, _, _⟩ :: _) _; refine jcc (vs := [.agg #[.int .i64 it.ty, er, .int .i64 it.low, .int .i64 it.high, sg, .int .u8 (fbN s (ipos it)), .bool it.str]]) bq72 rfl rfl rfl (fun E w' hC => q72_calls hi.ic) ?_) | (show JC _ _ _ _ _ (⟨_, .call ⟨.value (.func 59), _, _⟩, _, _, _, _⟩ :: _) _; refine jcc (vs := [.agg #[.int .i64 it.ty, er, .int .i64 it.low, .int .i64 it.high, sg, .int .u8 (fbN s (ipos it)), .bool it.str]]) bq73 rfl rfl rfl (fun E w' hC => q73_calls hi.ic) ?_) | (show JC _ _ _ _ _ (⟨_, .call ⟨.value (.func 61), _, _⟩, _, _, _, _⟩ :: _) _; refine jcc (vs := [.agg #[.int .i64 it.ty, er, .int .i64 it.low, .int .i64 it.high, sg, .int .u8 (fbN s (ipos it)), .bool it.str]]) bq75 rfl rfl rfl (fun E w' hC => q75_calls hi.ic) ?_) | (show JC _ _ _ _ _ (⟨_, .call ⟨.value (.func 62), _, _⟩, _, _, _, _⟩ :: _) _; refine jcc (vs := [.agg #[.int .i64 it.ty, er, .int .i64 it.low, .int .i64 it.high, sg, .int .u8 (fbN s (ipos it)), .bool it.str]]) bq76 rfl rfl rfl (fun E w' hC => q76_calls hi.ic) ?_) | (show JC _ _ _ _ _ (⟨_, .call ⟨.value (.func 63), _, _⟩, _, _, _, _⟩ :: _) _; refine jcc (vs := [.agg #[.int .i64 it.ty, er, .int .i64 it.low, .int .i64 it.high, sg, .int .u8 (fbN s (ipos it)), .bool it.str]]) bq77 rfl rfl rfl (fun E w' hC => q77_calls hi.ic) ?_) | (show JC _ _ _ _ _ (⟨_, .call ⟨.value (.func 64), _, _⟩, _, _, _, _⟩ :: _) _; refine jcc (vs := [.agg #[.int .i64 it.ty, er, .int .i64 it.low, .int .i64 it.high, sg, .int .u8 (fbN s (ipos it)), .bool it.str]]) bq78 rfl rfl rfl (fun E w' hC => q78_calls hi.ic) ?_) | (show JC _ _ _ _ _ (⟨_, .call ⟨.value (.func 65), _, _⟩, _, _, _, _⟩ :: _) _; refine jcc (vs := [.agg #[.int .i64 it.ty, er, .int .i64 it.low, .int .i64 it.high, sg, .int .u8 (fbN s (ipos it)), .bool it.str]]) bq79 rfl rfl rfl (fun E w' hC => q79_calls hi.ic) ?_) | (show JC _ _ _ _ _ (⟨_, .call ⟨.value (.func 66), _, _⟩, _, _, _, _⟩ :: _) _; refine jcc (vs := [.agg #[.int .i64 it.ty, er, .int .i64 it.low, .int .i64 it.high, sg, .int .u8 (fbN s (ipos it)), .bool it.str]]) bq80 rfl rfl rfl (fun E w' hC => q80_calls hi.ic) ?_) | (show JC _ _ _ _ _ (⟨_, .call ⟨.value (.func 67), _, _⟩, _, _, _, _⟩ :: _) _; refine jcc (vs := [.agg #[.int .i64 it.ty, er, .int .i64 it.low, .int .i64 it.high, sg, .int .u8 (fbN s (ipos it)), .bool it.str]]) bq81 rfl rfl rfl (fun E w' hC => q81_calls hi.ic) ?_) | (show JC _ _ _ _ _ (⟨_, .call ⟨.value (.func 68), _, _⟩, _, _, _, _⟩ :: _) _; refine jcc (vs := [.agg #[.int .i64 it.ty, er, .int .i64 it.low, .int .i64 it.high, sg, .int .u8 (fbN s (ipos it)), .bool it.str]]) bq82 rfl rfl rfl (fun E w' hC => q82_calls hi.ic) ?_) | (show JC _ _ _ _ _ (⟨_, .call ⟨.value (.func 69), _, _⟩, _, _, _, _⟩ :: _) _; refine jcc (vs := [.agg #[.int .i64 it.ty, er, .int .i64 it.low, .int .i64 it.high, sg, .int .u8 (fbN s (ipos it)), .bool it.str]]) bq83 rfl rfl rfl (fun E w' hC => q83_calls hi.ic) ?_) | (show JC _ _ _ _ _ (⟨_, .call ⟨.value (.func 70), _, _⟩, _, _, _, _⟩ :: _) _; refine jcc (vs := [.agg #[.int .i64 it.ty, er, .int .i64 it.low, .int .i64 it.high, sg, .int .u8 (fbN s (ipos it)), .bool it.str]]) bq84 rfl rfl rfl (fun E w' hC => q84_calls hi.ic) ?_) | (show JC _ _ _ _ _ (⟨_, .call ⟨.value (.func 71), _, _⟩, _, _, _, _⟩ :: _) _; refine jcc (vs := [.agg #[.int .i64 it.ty, er, .int .i64 it.low, .int .i64 it.high, sg, .int .u8 (fbN s (ipos it)), .bool it.str]]) bq85 rfl rfl rfl (fun E w' hC => q85_calls hi.ic) ?_) | (show JC _ _ _ _ _ (⟨_, .call ⟨.value (.func 72), _, _⟩, _, _, _, _⟩ :: _) _; refine jcc (vs := [.agg #[.int .i64 it.ty, er, .int .i64 it.low, .int .i64 it.high, sg, .int .u8 (fbN s (ipos it)), .bool it.str]]) bq86 rfl rfl rfl (fun E w' hC => q86_calls hi.ic) ?_))
  obtain ⟨L, hL⟩ : ∃ L, L = answers it.ty (!(trS (valI s it)).isEmpty) := ⟨_, rfl⟩
  have hLl : L.length = 15 := by rw [hL]; rfl
  refine me1 (g' := 1) 31 rfl rfl (by kernel_rfl) rfl ?_
  refine jlitN (n := 15) (vs := L.map Value.bool) (c := L.map Value.bool) (by rw [hL]; rfl) (by rw [List.length_map]; exact hLl) (by rw [hL]; rfl) (by rw [hL]; rfl) gr115 rfl rfl rfl rfl (fun gl hgl => ?_)
  refine jnil ?_
  refine mkeep [E5, (gl, L.map Value.bool, .c 4)] (fun w h => h.perm (List.perm_append_comm (l₁ := [_]))) ?_
  refine mq (g' := 0) [32] rfl (by kernel_rfl) (by kernel_rfl) rfl (fun _ d _ _ _ h => by cases d <;> exact h) rfl ?_
  repeat' (first | (show JC _ _ _ _ _ [] _; refine jcnil ?_) | (show JC _ _ _ _ _ (⟨_, .move _, _, _, _, _⟩ :: _) _; refine jcy (fun E => ymove rfl) rfl rfl ?_) | (show JC _ _ _ _ _ (⟨_, .fieldAddr 78 _ _, _, _, _, _⟩ :: _) _; fail) | (show JC _ _ _ _ _ (⟨_, .load 78 _, _, _, _, _⟩ :: _) _; refine jcy (fun E => yloads (i := 1) rfl rfl ag88) rfl rfl ?_) | (show JC _ _ _ _ _ (⟨_, .load 75 _, _, _, _, _⟩ :: _) _; refine jcy (fun E => yload (i := 1) rfl rfl rfl one85') rfl rfl ?_) | (show JC _ _ _ _ _ (⟨_, .load 69 _, _, _, _, _⟩ :: _) _; refine jcy (fun E => yload (i := 1) rfl rfl rfl one79) rfl rfl ?_) | (show JC _ _ _ _ _ (⟨_, .binOp .neq _ _ _ _, _, _, _, _⟩ :: _) _; refine jcy (fun E => yin rfl if79 hnil) rfl rfl ?_) | (show JC _ _ _ _ _ (⟨_, .build _ _, _, _, _, _⟩ :: _) _; refine jcy (fun E => ybuild rfl (bu42 it.ty (posI it : Nat) (ba (valI s it)) (!!it.err))) rfl rfl ?_) | (show JC _ _ _ _ _ (⟨_, .call ⟨.builtin .len, _, _⟩, _, _, _, _⟩ :: _) _; refine jcy (fun E => ylenl rfl und115') rfl rfl ?_) | (show JC _ _ _ _ _ (⟨_, .call ⟨.value (.func 56), _, _⟩, _, _, _, _⟩ :: _) _; refine jcc (vs := [.agg #[.int .i64 it.ty, er, .int .i64 it.low, .int .i64 it.high, sg, .int .u8 (fbN s (ipos it)), .bool it.str]]) bo70 rfl rfl rfl (fun E w' hC => posW_calls (hi.below (hC.2.below (fun k _ h => h) (Nat.le_refl _))) hn32) ?_) | (show JC _ _ _ _ _ (⟨_, .call ⟨.value (.func 57), _, _⟩, _, _, _, _⟩ :: _) _; refine jcc (vs := [.agg #[.int .i64 it.ty, er, .int .i64 it.low, .int .i64 it.high, sg, .int .u8 (fbN s (ipos it)), .bool it.str], .slice (some ⟨b, o, none⟩) s.length c]) bo71 rfl rfl rfl (fun E w' hC => valStr_calls (hB.below (hC.2.below (fun k _ h => h) (Nat.le_refl _)) (Nat.le_refl _)) (Nat.lt_of_lt_of_le hbw hC.2.size) hbig (hi.below (hC.2.below (fun k _ h => h) (Nat.le_refl _))) hin) ?_) | (show JC _ _ _ _ _ (⟨_, .call ⟨.value (.func 60), _, _⟩, _, _, _, _⟩ :: _) _; refine jcc (vs := [.agg #[.int .i64 it.ty, er, .int .i64 it.low, .int .i64 it.high, sg, .int .u8 (fbN s (ipos it)), .bool it.str], .slice (some ⟨b, o, none⟩) s.length c]) bo74 rfl rfl rfl (fun E w' hC => nonws_calls (hT0.below (hC.2.below (fun k _ h => h) (Nat.le_refl _))) (hB.below (hC.2.below (fun k _ h => h) (Nat.le_refl _)) (Nat.le_refl _)) (Nat.lt_of_lt_of_le hbw hC.2.size) hbig (hi.below (hC.2.below (fun k _ h => h) (Nat.le_refl _))) hin) ?_) | (show JC _ _ _ _ _ (⟨_, .call ⟨.value (.func 58), _, _⟩, _, _, _, _⟩ :: _) _; refine jcc (vs := [.agg #[.int .i64 it.ty, er, .int .i64 it.low, .int .i64 it.high, sg, .int .u8 (fbN s (ipos it)), .bool it.str]]) bq72 rfl rfl rfl (fun E w' hC => q72_calls hi.ic) ?_) | (show JC _ _ _ _ _ (⟨_, .call ⟨.value (.func 59), _, _⟩, _, _, _, _⟩ :: _) _; refine jcc (vs := [.agg #[.int .i64 it.ty, er, .int .i64 it.low, .int .i64 it.high, sg, .int .u8 (fbN s (ipos it)), .bool it.str]]) bq73 rfl rfl rfl (fun E w' hC => q73_calls hi.ic) ?_) | (show JC _ _ _ _ _ (⟨_, .call ⟨.value (.func 61), _, _⟩, _, _, _, _⟩ :: _) _; refine jcc (vs := [.agg #[.int .i64 it.ty, er, .int .i64 it.low, .int .i64 it.high, sg, .int .u8 (fbN s (ipos it)), .bool it.str]]) bq75 rfl rfl rfl (fun E w' hC => q75_calls hi.ic) ?_) | (show JC _ _ _ _ _ (⟨_, .call ⟨.value (.func 62), _, _⟩, _, _, _, _⟩ :: _) _; refine jcc (vs := [.agg #[.int .i64 it.ty, er, .int .i64 it.low, .int .i64 it.high, sg, .int .u8 (fbN s (ipos it)), .bool it.str]]) bq76 rfl rfl rfl (fun E w' hC => q76_calls hi.ic) ?_) | (show JC _ _ _ _ _ (⟨_, .call ⟨.value (.func 63), _, _⟩, _, _, _, _⟩ :: _) _; refine jcc (vs := [.agg #[.int .i64 it.ty, er, .int .i64 it.low, .int .i64 it.high, sg, .int .u8 (fbN s (ipos it)), .bool it.str]]) bq77 rfl rfl rfl (fun E w' hC => q77_calls hi.ic) ?_) | (show JC _ _ _ _ _ (⟨_, .call ⟨.value (.func 64), _, _⟩, _, _, _, _⟩ :: _) _; refine jcc (vs := [.agg #[.int .i64 it.ty, er, .int .i64 it.low, .int .i64 it.high, sg, .int .u8 (fbN s (ipos it)), .bool it.str]]) bq78 rfl rfl rfl (fun E w' hC => q78_calls hi.ic) ?_) | (show JC _ _ _ _ _ (⟨_, .call ⟨.value (.func 65), _, _⟩, _, _, _, _⟩ :: _) _; refine jcc (vs := [.agg #[.int .i64 it.ty, er, .int .i64 it.low, .int .i64 it.high, sg, .int .u8 (fbN s (ipos it)), .bool it.str]]) bq79 rfl rfl rfl (fun E w' hC => q79_calls hi.ic) ?_) | (show JC _ _ _ _ _ (⟨_, .call ⟨.value (.func 66), _, _⟩, _, _, _, _⟩ :: _) _; refine jcc (vs := [.agg #[.int .i64 it.ty, er, .int .i64 it.low, .int .i64 it.high, sg, .int .u8 (fbN s (ipos it)), .bool it.str]]) bq80 rfl rfl rfl (fun E w' hC => q80_calls hi.ic) ?_) | (show JC _ _ _ _ _ (⟨_, .call ⟨.value (.func 67), _, _⟩, _, _, _, _⟩ :: _) _; refine jcc (vs := [.agg #[.int .i64 it.ty, er, .int .i64 it.low, .int .i64 it.high, sg, .int .u8 (fbN s (ipos it)), .bool it.str]]) bq81 rfl rfl rfl (fun E w' hC => q81_calls hi.ic) ?_) | (show JC _ _ _ _ _ (⟨_, .call ⟨.value (.func 68), _, _⟩, _, _, _, _⟩ :: _) _; refine jcc (vs := [.agg #[.int .i64 it.ty, er, .int .i64 it.low, .int .i64 it.high, sg, .int .u8 (fbN s (ipos it)), .bool it.str]]) bq82 rfl rfl rfl (fun E w' hC => q82_calls hi.ic) ?_) | (show JC _ _ _ _ _ (⟨_, .call ⟨.value (.func 69), _, _⟩, _, _, _, _⟩ :: _) _; refine jcc (vs := [.agg #[.int .i64 it.ty, er, .int .i64 it.low, .int .i64 it.high, sg, .int .u8 (fbN s (ipos it)), .bool it.str]]) bq83 rfl rfl rfl (fun E w' hC => q83_calls hi.ic) ?_) | (show JC _ _ _ _ _ (⟨_, .call ⟨.value (.func 70), _, _⟩, _, _, _, _⟩ :: _) _; refine jcc (vs := [.agg #[.int .i64 it.ty, er, .int .i64 it.low, .int .i64 it.high, sg, .int .u8 (fbN s (ipos it)), .bool it.str]]) bq84 rfl rfl rfl (fun E w' hC => q84_calls hi.ic) ?_) | (show JC _ _ _ _ _ (⟨_, .call ⟨.value (.func 71), _, _⟩, _, _, _, _⟩ :: _) _; refine jcc (vs := [.agg #[.int .i64 it.ty, er, .int .i64 it.low, .int .i64 it.high, sg, .int .u8 (fbN s (ipos it)), .bool it.str]]) bq85 rfl rfl rfl (fun E w' hC => q85_calls hi.ic) ?_) | (show JC _ _ _ _ _ (⟨_, .call ⟨.value (.func 72), _, _⟩, _, _, _, _⟩ :: _) _; refine jcc (vs := [.agg #[.int .i64 it.ty, er, .int .i64 it.low, .int .i64 it.high, sg, .int .u8 (fbN s (ipos it)), .bool it.str]]) bq86 rfl rfl rfl (fun E w' hC => q86_calls hi.ic) ?_))
  refine mdone (by kernel_rfl) ?_
  rw [hE5]
  repeat' ((fail_if_success (show PJ _ (Code.wp _ (Code.loop _) _) _ _)); first | ((show PJ _ (Code.wp _ _ _) _ _; (refine cblk ?_))))
  refine fin (f' := [(5, .pointer (some ⟨g5, 0, none⟩)), (4, .pointer (some ⟨g4, 0, none⟩)), (50, .slice (some ⟨gl, 0, none⟩) 15 15), (51, .int .i64 (15 : Nat)), (52, .int .i64 (0 : Nat))]) (m' := plM g4 gb g5 gl it er sg s L 0)
    (cloop (ι := Nat) (fun j => [(5, .pointer (some ⟨g5, 0, none⟩)), (4, .pointer (some ⟨g4, 0, none⟩)), (50, .slice (some ⟨gl, 0, none⟩) 15 15), (51, .int .i64 (15 : Nat)), (52, .int .i64 (j : Nat))]) (fun j => plM g4 gb g5 gl it er sg s L j) (fun n j => n = 15 - j ∧ j ≤ 15) 15 0 ⟨rfl, Nat.zero_le _⟩ ?_) ⟨rfl, rfl, rfl, rfl, rfl, trivial⟩ rfl
  rintro n j ⟨rfl, hj⟩ K hK
  by_cases hlt : j < 15
  · obtain ⟨bj, hbj⟩ : ∃ bj, L[j]? = some bj := ⟨_, List.getElem?_eq_getElem (by omega)⟩
    have hk := hK (15 - (j + 1)) (j + 1) (by omega) ⟨rfl, by omega⟩
    have htk : (L.take j).length = j := by rw [List.length_take]; omega
    have hsum : bsum (L.take (j + 1)) 0 = bsum (L.take j) 0 + (if bj then 2 ^ j else 0) := by
      obtain ⟨h1, h2⟩ := List.getElem?_eq_some_iff.1 hbj
      rw [← List.take_append_getElem h1, h2, bsum_app, htk, Nat.zero_add]
    have hlt2 : bsum (L.take j) 0 < 2 ^ j := by
      have := bsum_lt (L.take j) 0
      rw [htk, Nat.zero_add] at this
      omega
    have hnth : nth (L.map Value.bool) j = some (.bool bj) := by rw [nth_eq, List.getElem?_map, hbj]; rfl
    cases bj
    · unfold plM at hk ⊢
      rw [hsum, if_neg (by simp), Nat.add_zero] at hk
      repeat' (first | refine cseq ?_ | refine rtext ?_ | refine ctrue rfl ?_ | refine cfalse rfl ?_ | refine cskip ?_ | refine cblk ?_ | refine tnorm ?_ | refine jnil ?_ | (first | refine jmv rfl rfl rfl ?_ | (show Jo _ (.load _ _); refine jy (yload (i := 3) rfl rfl hnth one4) rfl rfl ?_) | refine jas_ rfl rfl rfl ?_ | (show Jo _ (.binOp _ _ _ _ _); first | (show Jo (some 64) (.binOp .add _ _ _ _); refine jy (yadd (c := ((j + 1 : Nat) : Int)) rfl rfl (by rw [i64_in (by omega) (by omega)]; omega)) rfl rfl ?_) | refine jy (ylss rfl rfl (by (exact decide_eq_true (by omega)))) rfl rfl ?_) | (show Jo _ (.indexAddr 55 _ _); refine jy (yatb (o' := j) rfl rfl und115' sz4 (by omega) (by omega) (by omega)) rfl rfl ?_)))
      exact fin hk ⟨rfl, rfl, rfl, rfl, rfl, trivial⟩ rfl
    · unfold plM at hk ⊢
      rw [hsum, if_pos rfl] at hk
      repeat' (first | (show PJ _ (Code.wp _ _ _) _ _; first | refine cseq ?_ | refine rtext ?_ | refine ctrue rfl ?_ | refine cskip ?_ | refine cblk ?_ | (show PJ _ (Code.wp _ (Code.region 6 _ true) _) _ _; refine rtail 6 mixed (by kernel_rfl) ?_)) | refine tnorm ?_ | (show PJ _ (wpList _ _ _ _) _ _; refine jlist ?_) | refine jnil ?_ | (first | refine jmv rfl rfl rfl ?_ | (show Jo _ (.fieldAddr _ _ _); refine jy (yfield rfl fb42_4 rfl) rfl rfl ?_) | (show Jo _ (.load _ _); first | refine jy (yload (i := 3) rfl rfl hnth one4) rfl rfl ?_ | refine jy (yload (i := 2) rfl rfl rfl one4) rfl rfl ?_) | refine jas_ rfl rfl rfl ?_ | (show Jo _ (.binOp _ _ _ _ _); first | (show Jo (some 64) (.binOp .add _ _ _ _); refine jy (yadd (c := ((j + 1 : Nat) : Int)) rfl rfl (by rw [i64_in (by omega) (by omega)]; omega)) rfl rfl ?_) | (show Jo _ (.binOp .shl _ _ _ _); refine jy (yshl rfl rfl (by omega) (shl_pow hlt)) rfl rfl ?_) | (show Jo _ (.binOp .or _ _ _ _); refine jy (yor rfl rfl (or_pow hlt2 hlt)) rfl rfl ?_) | refine jy (ylss rfl rfl (by (exact decide_eq_true (by omega)))) rfl rfl ?_) | (show Jo _ (.store _ _ _); refine jstore (i := 2) rfl rfl rfl rfl rfl si40 (.inr hg5) ?_) | (show Jo _ (.indexAddr 55 _ _); refine jy (yatb (o' := j) rfl rfl und115' sz4 (by omega) (by omega) (by omega)) rfl rfl ?_)))
      exact fin hk ⟨rfl, rfl, rfl, rfl, rfl, trivial⟩ rfl
  · obtain rfl : j = 15 := by omega
    have hfin : bsum (L.take 15) 0 = bitsT it.ty (!(trS (valI s it)).isEmpty) := by rw [List.take_of_length_le (by omega), hL, bsum_bits]
    unfold plM
    rw [hfin]
    repeat' (first | refine cseq ?_ | refine rtext ?_ | refine cfalse rfl ?_ | refine cret ?_ | refine cexit ?_ | refine jnil ?_ | (first | (show Jo _ (.load _ _); refine jy (yloads (i := 2) rfl rfl ag42) rfl rfl ?_) | (show Jo _ (.binOp _ _ _ _ _); refine jy (ylss rfl rfl (by (exact decide_eq_false (by omega)))) rfl rfl ?_) | (show Jo _ (.store _ _ _); refine jstores (i := 0) rfl rfl rfl rfl rfl si42 (.inr hg4) ?_)))
    exact retcP (i := 0) rfl rfl rfl rfl ag42 (fun w' hw' => ⟨by rw [Bool.not_not]; rfl, hw'.2.below (fun k _ h => h) (Nat.le_refl _)⟩)
theorem bo56 : bodyB Tryz.prog 48 = true := by kernel_rfl
theorem ze83 : (Tryz.prog.info? 73).bind (·.zero) = some (.agg #[.bool false, .bool false]) := by kernel_rfl
theorem si83 : (Tryz.prog.info? 73).map (·.size) = some 2 := by kernel_rfl
theorem bu83 (a b : Bool) : Tryz.prog.built 73 [(0, .bool a), (1, .bool b)] = some [.bool a, .bool b].toArray := by kernel_rfl
theorem config_calls {w : World} (fr dv : Bool) : Calls Tryz.prog 48 #[.bool fr, .bool dv] w fun e w' => e = .returned (.agg #[.bool (!fr), .bool (!dv)]) ∧ Below w.heap.size w w' := by
  refine enter (fun _ => False) 10 [] Tryz.func48 rfl rfl rfl (vs := [.bool fr, .bool dv]) (Has.nil _) ?_
  conv => arg 2; arg 2; whnf
  repeat' (first | refine cseq ?_ | refine rtext ?_ | refine cret ?_ | refine jnil ?_ | (first | refine jmv rfl rfl rfl ?_ | (show Jo _ (.store _ _ _); refine jstores (i := 0) rfl rfl rfl rfl rfl si83 (.inr hg4) ?_) | refine jy (ynot rfl rfl) rfl rfl ?_ | (show Jo _ (.alloc _); refine jalloc ze83 rfl (fun g4 hg4 => ?_)) | (show Jo _ (.build _ _); refine jy (ybuild rfl (bu83 (!fr) (!dv))) rfl rfl ?_)))
  exact retcP (i := 0) rfl rfl rfl rfl agg83 (fun w' hw' => ⟨rfl, hw'.2.below (fun k _ h => h) (Nat.le_refl _)⟩)
theorem ics_at {s : T} {G : Mem} : ∀ {l : List Itm} {cs : List Value}, ICS s G l cs → cs.length = 7 * l.length ∧ ∀ (j : Nat) it, l[j]? = some it → ItC s G it ((cs.drop (7 * j)).take 7) := by
  intro l cs h
  induction h with
  | nil => exact ⟨rfl, fun j it hj => by simp at hj⟩
  | @cons it c its cs h1 _ ih =>
    have hc : c.length = 7 := by obtain ⟨er, sg, rfl, _⟩ := h1; rfl
    refine ⟨by rw [List.length_append, hc, ih.1, List.length_cons]; omega, fun j it' hj => ?_⟩
    cases j with
    | zero =>
      obtain rfl : it = it' := by simpa using hj
      rw [Nat.mul_zero, List.drop_zero, List.take_append_of_le_length (by omega), List.take_of_length_le (by omega)]
      exact h1
    | succ j =>
      have := ih.2 j it' (by simpa using hj)
      rw [show 7 * (j + 1) = c.length + 7 * j by omega, ← List.drop_drop, List.drop_left]
      exact this
theorem itW_of {w : World} {s : T} {G : Mem} {it : Itm} {c : List Value} (h : ItC s G it c) (hG : ∀ x ∈ G, BlkAt w x.1 x.2.1 x.2.2) : ItW w s it c := by
  obtain ⟨er, sg, h1, h2, h3, h4⟩ := h
  refine ⟨er, sg, h1, ?_, ?_⟩
  · cases he : it.err
    · exact .inl ⟨rfl, h2 he⟩
    · exact .inr ⟨rfl, h3 he⟩
  · rcases h4 with h4 | ⟨g, cap, rr, h5, h6, h7⟩
    · exact .inl h4
    · refine .inr ⟨⟨g, 0, none⟩, cap, h5, h6, fun j u hj => ?_⟩
      have hb : w.heap[g]? = some (.cells (segC it.segs ++ rr).toArray 104 (0, 0)) := hG _ h7
      rw [add_lit]
      simp only [World.cell?, hb]
      rw [List.getElem?_toArray, List.getElem?_append_left (List.getElem?_eq_some_iff.1 hj).1, hj]
      simp
theorem bo38 : bodyB Tryz.prog 42 = true := by kernel_rfl
theorem gr24 : growB Tryz.prog 26 59 5 40 = true := by kernel_rfl
theorem und77 : Tryz.prog.underlying 67 = some (.slice 78) := by kernel_rfl
theorem sz88 : szB Tryz.prog 78 7 = true := by kernel_rfl
theorem ze88' : (Tryz.prog.info? 78).bind (·.zero) = some (.agg zItm.toArray) := by kernel_rfl
theorem si88 : (Tryz.prog.info? 78).map (·.size) = some 7 := by kernel_rfl
def tisC (s : T) (l : List Itm) : List Value := l.flatMap fun it => tiC (toldI envT s it)
theorem tisC_take {s : T} {l : List Itm} {j : Nat} {it : Itm} (h : l[j]? = some it) : tisC s (l.take (j + 1)) = tisC s (l.take j) ++ tiC (toldI envT s it) := by
  obtain ⟨hlt, he⟩ := List.getElem?_eq_some_iff.1 h
  unfold tisC
  rw [← List.take_append_getElem hlt, List.flatMap_append, he]
  simp
theorem tiC_one (t : Ti) : ∀ u ∈ tiC t, u.oneCell' = true := by
  intro u hu
  simp only [tiC, List.mem_cons, List.not_mem_nil, or_false] at hu
  rcases hu with rfl | rfl | rfl | rfl | rfl <;> rfl
set_option maxHeartbeats 2000000 in
theorem items_calls {X : Cx} {H1 : Hd} (fr dv : Bool) (hnf : H1.nf = !fr) (hnd : H1.nd = !dv) (hW : ∃ W, Bs W X ∧ Tab W) (hsz : H1.s.length ≤ H1.cap) (hbig : H1.s.length ≤ 4294967296) {E : Mem} (l : List Itm) (hl : l = parse envT H1.s fr dv) (hll : l.length ≤ 1000000000000) (hin : ∀ it ∈ l, InI H1.s it) : ∀ w, Cl X (iB H1 :: E) w →
    Calls Tryz.prog 42 #[.slice (some ⟨H1.gI, 0, none⟩) H1.s.length H1.cap, .bool fr, .bool dv] w fun e w' => ∃ r : Row, e = .returned (r.val l.length) ∧ Cl X (r.mem (tisC H1.s l) 59) w' ∧ r.ok X.w0.heap.size 5 l.length (tisC H1.s l) := by
  intro w hw
  refine enterC 34 hw Tryz.func42 rfl rfl (vs := [.slice (some ⟨H1.gI, 0, none⟩) H1.s.length H1.cap, .bool fr, .bool dv]) rfl ?_
  have hWs : ∃ W, Bs W (X.sub 34 w) ∧ Tab W := by
    obtain ⟨W, h1, h2⟩ := hW
    exact ⟨W, h1.sub hw 34, h2⟩
  have hp55 : ∀ w', Cl (X.sub 34 w) (iB H1 :: E) w' → Calls Tryz.prog 47 #[.slice (some ⟨H1.gI, 0, none⟩) H1.s.length H1.cap, .agg #[.bool (!fr), .bool (!dv)]] w' fun e w'' => ∃ p : Hd × RI, e = .returned (.tuple #[p.2.q.val, .nilIface]) ∧ Cl (X.sub 34 w) (psM p) w'' ∧ PsdOk (X.sub 34 w) H1 l p := fun w' hw' => by
    have := parse55_calls (X := X.sub 34 w) (H1 := H1) hWs hsz hbig w' hw'
    rw [hnf, hnd, Bool.not_not, Bool.not_not, ← hl] at this
    exact this
  conv => arg 2; arg 2; whnf
  repeat' ((fail_if_success (show PJ _ (Code.wp _ (Code.seq (Code.region 3 _ _) _) _) _ _)); first | first | refine cseq ?_ | refine rtext ?_ | refine jnil ?_ | (first | refine jmv rfl rfl rfl ?_ | refine jas_ rfl rfl rfl ?_ | (show Jo _ (.call _); first | (show Jo _ (.call ⟨.value (.func 48), _, _⟩); refine jcallq bo56 rfl rfl rfl (quietC fun w' hw' => config_calls fr dv) ?_) | (show Jo _ (.call ⟨.value (.func 47), _, _⟩); refine jcall (ι := Hd × RI) (vs := [.slice (some ⟨H1.gI, 0, none⟩) H1.s.length H1.cap, .agg #[.bool (!fr), .bool (!dv)]]) _ bo55 rfl rfl rfl hp55 (fun p hp => ?_))) | (show Jo _ (.extract _ _); refine jy (yextractL rfl rfl) rfl rfl ?_)))
  have hqn : p.2.q.n = l.length := by rw [hp.st.n, hp.it]
  have hqv : p.2.q.val = .slice (some ⟨p.2.q.gR, 0, none⟩) l.length p.2.q.cap := by rw [← hqn]; rfl
  rw [hqv]
  obtain ⟨hcl, hat⟩ := ics_at hp.st.ics
  rw [hp.it] at hcl hat
  repeat' ((fail_if_success (show PJ _ (Code.wp _ (Code.loop _) _) _ _)); first | first | refine cseq ?_ | refine rtext ?_ | refine cblk ?_ | refine jnil ?_ | (first | refine jmv rfl rfl rfl ?_ | (show Jo _ (.call _); ((show Jo _ (.call ⟨.builtin .len, _, _⟩); refine jy (ylenl rfl und77) rfl rfl ?_)))))
  refine fin (f' := [(0, .slice (some ⟨H1.gI, 0, none⟩) H1.s.length H1.cap), (9, (Row.nil).val 0), (20, .slice (some ⟨p.2.q.gR, 0, none⟩) l.length p.2.q.cap), (21, .int .i64 l.length), (22, .int .i64 (0 : Nat))]) (m' := psM p ++ (Row.nil).mem (tisC H1.s (l.take 0)) 59)
    (cloop (ι := Nat × Row) (fun i => [(0, .slice (some ⟨H1.gI, 0, none⟩) H1.s.length H1.cap), (9, i.2.val i.1), (20, .slice (some ⟨p.2.q.gR, 0, none⟩) l.length p.2.q.cap), (21, .int .i64 l.length), (22, .int .i64 (i.1 : Nat))]) (fun i => psM p ++ i.2.mem (tisC H1.s (l.take i.1)) 59)
      (fun n i => n = l.length - i.1 ∧ i.1 ≤ l.length ∧ i.2.ok X.w0.heap.size 5 i.1 (tisC H1.s (l.take i.1)) ∧ i.2.may (X.sub 34 w)) l.length (0, .nil) ⟨rfl, Nat.zero_le _, ⟨rfl, rfl⟩, trivial⟩ ?_) ⟨rfl, rfl, rfl, rfl, rfl, trivial⟩ (by rw [show (Row.nil).mem (tisC H1.s (l.take 0)) 59 = [] from rfl, List.append_nil])
  rintro n ⟨j, r⟩ ⟨rfl, hj, hrok, hmr⟩ K hK
  dsimp only at hj hrok hmr ⊢
  by_cases hlt : j < l.length
  · obtain ⟨it, hit⟩ : ∃ it, l[j]? = some it := ⟨_, List.getElem?_eq_getElem hlt⟩
    have hItC := hat j it hit
    obtain ⟨cj, hcjd⟩ : ∃ cj, cj = (p.2.q.ics.drop (7 * j)).take 7 := ⟨_, rfl⟩
    rw [← hcjd] at hItC
    have hcj : ((p.2.q.ics ++ p.2.q.rr).drop (7 * j)).take 7 = cj := by
      rw [List.drop_append_of_le_length (by omega), List.take_append_of_le_length (by rw [List.length_drop]; omega), hcjd]
    have hble : Nat.ble (7 * j + 7) (p.2.q.ics ++ p.2.q.rr).length = true := Nat.ble_eq_true_of_le (by rw [List.length_append]; omega)
    have hone : cj.all (·.oneCell') = true := by
      obtain ⟨er, sg, h1, h2, h3, h4⟩ := hItC
      have he : er.oneCell' = true := by
        cases hb : it.err
        · rw [h2 hb]; rfl
        · obtain ⟨v, rfl⟩ := h3 hb; rfl
      have hs : sg.oneCell' = true := by rcases h4 with ⟨_, rfl⟩ | ⟨g, cap, rr, _, rfl, _⟩ <;> rfl
      rw [h1]
      unfold itC
      simp only [List.all_cons, List.all_nil, he, hs, Bool.true_and, Bool.and_true]
      rfl
    have hc7 : cj.length = 7 := by obtain ⟨er, sg, h1, _⟩ := hItC; rw [h1]; rfl
    have hk : ∀ r1 : Row, r1.ok X.w0.heap.size 5 (j + 1) (tisC H1.s (l.take j) ++ tiC (toldI envT H1.s it)) → r1.may (X.sub 34 w) → PJ (X.sub 34 w) K [(0, .slice (some ⟨H1.gI, 0, none⟩) H1.s.length H1.cap), (9, r1.val (j + 1)), (20, .slice (some ⟨p.2.q.gR, 0, none⟩) l.length p.2.q.cap), (21, .int .i64 l.length), (22, .int .i64 ((j + 1 : Nat) : Int))] (psM p ++ r1.mem (tisC H1.s (l.take j) ++ tiC (toldI envT H1.s it)) 59) := fun r1 g1 g2 => by
      have := hK (l.length - (j + 1)) (j + 1, r1) (by dsimp only; omega) ⟨rfl, hlt, by rw [tisC_take hit]; exact g1, g2⟩
      dsimp only at this
      rw [tisC_take hit] at this
      exact this
    have hpl : ∀ (bb : Nat × List Value × Bk) w', Cl (X.sub 34 w) (bb :: (psM p ++ r.mem (tisC H1.s (l.take j)) 59)) w' → Calls Tryz.prog 49 #[.agg cj.toArray, .slice (some ⟨H1.gI, 0, none⟩) H1.s.length H1.cap] w' fun e w'' => e = .returned (.agg (tiC (toldI envT H1.s it)).toArray) ∧ Below w'.heap.size w' w'' := fun bb w' hw' => by
      have hmem : iB H1 ∈ (bb :: (psM p ++ r.mem (tisC H1.s (l.take j)) 59)) := by
        rw [← hp.ib]
        exact .tail _ (.tail _ (.head _))
      have hGm : ∀ x ∈ p.2.G, BlkAt w' x.1 x.2.1 x.2.2 := fun x hx => hw'.1.blk x (List.mem_cons_of_mem _ (List.mem_append_left _ (.tail _ (.tail _ (.tail _ (.tail _ (.tail _ (List.mem_append_right _ hx))))))))
      have hT : Tab w' := by
        obtain ⟨W, h1, h2⟩ := hWs
        exact h2.below (h1.w hw')
      have hIW := itW_of (w := w') hItC hGm
      rw [hp.hs] at hIW
      exact plain_calls hT (inp_byt hw'.1 hmem hsz) (hw'.1.lt hmem) hbig hIW (hin it (List.mem_of_getElem? hit))
    repeat' (first | refine cseq ?_ | refine rtext ?_ | refine ctrue rfl ?_ | refine cskip ?_ | refine cblk ?_ | refine tnorm ?_ | refine jnil ?_ | (first | refine jmv rfl rfl rfl ?_ | (show Jo _ (.load _ _); first | refine jy (yloads (i := 0) rfl rfl (by (rw [hc7]; exact ag88))) rfl rfl ?_ | refine jy (yloadp (i := 2) (n := 7) rfl rfl ag88 hble hcj) rfl rfl ?_) | refine jas_ rfl rfl rfl ?_ | (show Jo _ (.binOp _ _ _ _ _); first | (show Jo _ (.binOp .add _ _ _ _); refine jy (yadd (c := ((j + 1 : Nat) : Int)) rfl rfl (by rw [i64_in (by omega) (by omega)]; omega)) rfl rfl ?_) | refine jy (ylss rfl rfl (by (exact decide_eq_true (by omega)))) rfl rfl ?_) | (show Jo _ (.store _ _ _); (refine jstores (i := 0) rfl rfl rfl hc7.symm hone (by rw [hc7]; exact si88) (.inr hg11) ?_)) | (show Jo _ (.call _); first | (show Jo _ (.call ⟨.value (.func 49), _, _⟩); refine jcallq (vs := [.agg cj.toArray, .slice (some ⟨H1.gI, 0, none⟩) H1.s.length H1.cap]) bo57 rfl rfl rfl (quietC fun w' hw' => hpl _ w' hw') ?_) | (show Jo _ (.call ⟨.builtin .append, _, _⟩); refine jappendP (k := 1) (r := r) (B := X.w0.heap.size) (xs := tisC H1.s (l.take j)) (news := tiC (toldI envT H1.s it)) (_ :: _ :: psM p) (fun r' => _ :: _ :: (psM p ++ r'.mem (tisC H1.s (l.take j) ++ tiC (toldI envT H1.s it)) 59)) (List.Perm.refl _) (fun r' => List.Perm.refl _) rfl rfl (src_blk (i := 0) 0 rfl (add_zero _) (fun j u hj => by rw [Nat.zero_add]; exact hj)) rfl (tiC_one _) hrok hw.2.size hmr gr24 (by omega) (by simp only [maxLen]; omega) (by omega) rfl (fun r1 hr1 hmr1 => ?_))) | (show Jo _ (.alloc _); refine jalloc ze88' rfl (fun g11 hg11 => ?_)) | (show Jo _ (.indexAddr 67 _ _); refine jy (yatb (o' := 7 * j) rfl rfl und77 sz88 (by omega) (by omega) (by omega)) rfl rfl ?_) | (show Jo _ (.buildSlice _ _ _); refine jlitN (n := 1) (vs := [.agg (tiC (toldI envT H1.s it)).toArray]) (c := tiC (toldI envT H1.s it)) rfl rfl rfl rfl gr24 rfl rfl rfl rfl (fun gl hgl => ?_))))
    exact finS (hk r1 hr1 hmr1) ⟨rfl, rfl, rfl, rfl, rfl, trivial⟩ ((List.sublist_cons_self _ _).trans (List.sublist_cons_self _ _))
  · obtain rfl : j = l.length := by omega
    rw [List.take_length] at *
    repeat' (first | refine cseq ?_ | refine rtext ?_ | refine cfalse rfl ?_ | refine cret ?_ | refine cexit ?_ | refine jnil ?_ | (first | refine jmv rfl rfl rfl ?_ | refine jas_ rfl rfl rfl ?_ | (show Jo _ (.binOp _ _ _ _ _); refine jy (ylss rfl rfl (by (exact decide_eq_false (by omega)))) rfl rfl ?_)))
    exact ret1 rfl rfl rfl (fun w' hw' => ⟨r, rfl, (hw.up hw').less (List.sublist_append_right _ _), hrok⟩)
theorem bo16 : bodyB Tryz.prog 28 = true := by kernel_rfl
@[reducible] def hdP (bs : ByteArray) (fr dv : Bool) (g cap : Nat) (r : List Value) : Hd := ⟨0, g, 0, 0, cap, bs.data.toList, r, .nilFunc, !fr, !dv⟩
set_option maxHeartbeats 1000000 in
theorem parse_calls {w : World} (hT : Tab w) (bs : ByteArray) (fr dv : Bool) (hbig : bs.data.toList.length ≤ 4294967296) (l : List Itm) (hl : l = parse envT bs.data.toList fr dv) (hll : l.length ≤ 1000000000000) (hin : ∀ it ∈ l, InI bs.data.toList it) :
    Calls Tryz.prog 28 #[.string bs, .bool fr, .bool dv] w fun e w' => ∃ r : Row, e = .returned (r.val l.length) ∧ Has (r.mem (tisC bs.data.toList l) 59) w' ∧ r.ok w.heap.size 5 l.length (tisC bs.data.toList l) ∧ Below w.heap.size w w' := by
  refine enter (fun _ => False) 12 [] Tryz.func28 rfl rfl rfl (vs := [.string bs, .bool fr, .bool dv]) (Has.nil _) ?_
  have hW : ∃ W, Bs W ⟨12, [], fun _ => False, w⟩ ∧ Tab W := ⟨w, ⟨Below.refl _ _, fun k h => h.elim⟩, hT⟩
  conv => arg 2; arg 2; whnf
  repeat' (first | refine cseq ?_ | refine rtext ?_ | refine cret ?_ | refine jnil ?_ | (first | refine jmv rfl rfl rfl ?_ | refine jas_ rfl rfl rfl ?_ | (show Jo _ (.call _); ((show Jo _ (.call ⟨.value (.func 42), _, _⟩); refine jcall (ι := Row) (vs := [.slice (some ⟨g, 0, none⟩) bs.size cap, .bool fr, .bool dv]) _ bo38 rfl rfl rfl (fun w' hw' => (items_calls (H1 := hdP bs fr dv g cap rr) fr dv rfl rfl hW hcap hbig l hl hll hin w' hw').mono fun e w'' ⟨r, h1, h2, h3⟩ => ⟨r, h1, h2, h3⟩) (fun r hr => ?_)))) | (show Jo _ (.convert _ _ _); refine jbytes rfl und9' und59 und5' rfl (fun g cap rr hg hcap => ?_))))
  exact ret1 rfl rfl rfl (fun w' hw' => ⟨r, rfl, hw'.1, hr, hw'.2.below (fun k _ h => h) (Nat.le_refl _)⟩)
theorem al_ascii : ∀ k : Fin 128, alU (k.val : Int) = isW (UInt8.ofNat k.val) := by decide +kernel
theorem ea_env : EA envT := ⟨fun c hc => by
  have := al_ascii ⟨c.toNat, hc⟩
  rw [show UInt8.ofNat (⟨c.toNat, hc⟩ : Fin 128).val = c from UInt8.ofNat_toNat] at this
  exact this, env_al⟩
theorem trS_sp {c : UInt8} {r : T} (h1 : c.toNat < 128) (h2 : isSp c.toNat = true) : trS (c :: r) = trS r := by
  show (if 128 ≤ c.toNat then trimU (c :: r) else if isSp c.toNat then trS r else trE (c :: r)) = _
  rw [if_neg (by omega), if_pos h2]
theorem trS_no {c : UInt8} {r : T} (h1 : c.toNat < 128) (h2 : isSp c.toNat = false) : trS (c :: r) = trE (c :: r) := by
  show (if 128 ≤ c.toNat then trimU (c :: r) else if isSp c.toNat then trS r else trE (c :: r)) = _
  rw [if_neg (by omega), if_neg (by rw [h2]; exact Bool.noConfusion)]
theorem dw_nil {p : UInt8 → Bool} : ∀ {l : T}, l.dropWhile p = [] → ∀ c ∈ l, p c = true
  | [], _, c, hc => by cases hc
  | a :: l, h, c, hc => by
    rw [List.dropWhile_cons] at h
    split at h
    · rename_i ha
      rcases List.mem_cons.1 hc with rfl | hc
      · exact ha
      · exact dw_nil h c hc
    · cases h
theorem trE_ne {s : T} (ha : asc s) {c : UInt8} (hc : c ∈ s) (hs : isSp c.toNat = false) : trE s ≠ [] := by
  unfold trE
  cases h : s.reverse.dropWhile (fun c => isSp c.toNat) with
  | nil =>
    have := dw_nil h c (List.mem_reverse.2 hc)
    rw [hs] at this
    cases this
  | cons d t =>
    have hd : d ∈ s := List.mem_reverse.1 (List.dropWhile_sublist _ |>.subset (by rw [h]; exact List.mem_cons_self ..))
    dsimp only
    rw [if_neg (by have := ha d hd; omega)]
    simp
theorem tra_env : TrA envT := ⟨fun t => by
  show asc t → (trS t).isEmpty = isSpT t
  induction t with
  | nil => intro _; rfl
  | cons c r ih =>
    intro h
    have hc := h c (List.mem_cons_self ..)
    have e : isSpT (c :: r) = (isSp c.toNat && isSpT r) := rfl
    rw [e]
    cases hs : isSp c.toNat
    · rw [trS_no hc hs]
      have := trE_ne h (List.mem_cons_self ..) hs
      cases ht : trE (c :: r) with
      | nil => exact absurd ht this
      | cons a b => rfl
    · rw [trS_sp hc hs, ih (fun c hc => h c (List.mem_cons_of_mem _ hc))]
      rfl⟩
end Go.Proofs.YtkehggbmpdacpabGreatDoor.Pg
namespace Go.Proofs.YtkehggbmpdacpabGreatDoor.Pg
open Go.Proofs.YtkehggbmpdacpabGreatDoor.Dec0 Go.Proofs.YtkehggbmpdacpabGreatDoor.Lex0
def AllIn (s : T) (x : Lx) : Prop := ∀ it ∈ x.items, InI s it
theorem in_mk {s : T} {it : Itm} (hs : it.segs = []) (h1 : it.low ≤ it.high) (h2 : it.high ≤ s.length) : InI s it := ⟨fun _ => ⟨h1, h2⟩, by rw [hs]; exact Nat.zero_le _, by rw [hs]; exact Nat.zero_le _⟩
theorem in_app {s : T} {x y : Lx} {k : List Itm} (h : AllIn s x) (hy : y.items = x.items ++ k) (hk : ∀ it ∈ k, InI s it) : AllIn s y := fun it hi => by
  rw [hy] at hi
  rcases List.mem_append.1 hi with h' | h'
  · exact h it h'
  · exact hk it h'
theorem in_same {s : T} {x y : Lx} (h : AllIn s x) (hy : y.items = x.items) : AllIn s y := fun it hi => h it (by rw [← hy]; exact hi)
theorem in_emit {s : T} {x : Lx} {t : Nat} (h : AllIn s x) (h1 : x.start ≤ x.pos) (h2 : x.pos ≤ s.length) : AllIn s (emit t x) := in_app h rfl fun it hi => by
  rw [List.mem_singleton.1 hi]
  exact in_mk rfl h1 h2
theorem in_emitS {s : T} {x : Lx} {t : Nat} (h : AllIn s x) (h1 : x.start ≤ x.pos) (h2 : x.pos ≤ s.length) : AllIn s (emitS t x) := in_app h rfl fun it hi => by
  rw [List.mem_singleton.1 hi]
  exact in_mk rfl h1 h2
theorem in_err {s : T} {x : Lx} (h : AllIn s x) (h1 : x.start ≤ x.pos) (h2 : x.pos ≤ s.length) : AllIn s (errI x) := in_app h rfl fun it hi => by
  rw [List.mem_singleton.1 hi]
  exact in_mk rfl h1 h2
theorem in_txts {s : T} {a b : Nat} (h1 : a ≤ b) (h2 : b ≤ s.length) : ∀ it ∈ txts s a b, InI s it := by
  have hk : ((cut s a b).reverse.takeWhile isBl).length ≤ b - a := by
    have := (List.takeWhile_sublist isBl (l := (cut s a b).reverse)).length_le
    rw [List.length_reverse, cut_len h2] at this
    exact this
  unfold txts
  dsimp only
  generalize ((cut s a b).reverse.takeWhile isBl).length = k at hk ⊢
  intro it hi
  split at hi
  · rw [List.mem_singleton.1 hi]; exact in_mk rfl h1 h2
  · split at hi
    · simp only [List.mem_cons, List.not_mem_nil, or_false] at hi
      rcases hi with rfl | rfl
      · exact in_mk rfl (by dsimp only [mk]; omega) (by dsimp only [mk]; omega)
      · exact in_mk rfl (by dsimp only [mk]; omega) (by dsimp only [mk]; omega)
    · rw [List.mem_singleton.1 hi]; exact in_mk rfl h1 h2
theorem in_emitT {s : T} {x : Lx} (h : AllIn s x) (h1 : x.start ≤ x.pos) (h2 : x.pos ≤ s.length) : AllIn s (emitT s x) := in_app h rfl (in_txts h1 h2)
theorem segs_in {n : Nat} : ∀ (l : T) (a k i : Nat), a ≤ k → k ≤ i → i + l.length ≤ n → SegCh n a (segsL l k i) ∧ (segsL l k i).length ≤ l.length + (if k < i then 1 else 0)
  | [], a, k, i, h1, h2, h3 => by
    unfold segsL
    have h3 : i ≤ n := by simpa using h3
    split
    · exact ⟨⟨h1, h2, h3⟩, by simp⟩
    · exact ⟨show a ≤ n by omega, by simp⟩
  | c :: r, a, k, i, h1, h2, h3 => by
    rw [List.length_cons] at h3 ⊢
    unfold segsL
    split
    · split
      · have h := segs_in (n := n) r i (i + 1) (i + 1) (Nat.le_succ _) (Nat.le_refl _) (by omega)
        rw [if_neg (Nat.lt_irrefl _)] at h
        exact ⟨⟨h1, h2, h.1⟩, by rw [List.length_cons]; omega⟩
      · have h := segs_in (n := n) r a (i + 1) (i + 1) (by omega) (Nat.le_refl _) (by omega)
        rw [if_neg (Nat.lt_irrefl _)] at h
        exact ⟨h.1, by omega⟩
    · have h := segs_in (n := n) r a k (i + 1) h1 (by omega) (by omega)
      rw [if_pos (by omega)] at h
      refine ⟨h.1, ?_⟩
      have := h.2
      split <;> omega
theorem in_emitE {s : T} {x : Lx} {t : Nat} (h : AllIn s x) (h1 : x.start ≤ x.pos) (h2 : x.pos ≤ s.length) : AllIn s (emitE t s x) := by
  have hs := segs_in (n := s.length) (cut s x.start x.pos) 0 x.start x.start (Nat.zero_le _) (Nat.le_refl _) (by rw [cut_len h2]; omega)
  rw [if_neg (Nat.lt_irrefl _), cut_len h2] at hs
  unfold emitE
  split
  · exact in_same h rfl
  · rename_i hne
    refine in_app h rfl fun it hi => ?_
    rw [List.mem_singleton.1 hi]
    exact ⟨fun he => absurd he hne, hs.1, Nat.le_trans hs.2 (by omega)⟩
theorem in_qEnd {s : T} {x : Lx} (h : AllIn s x) : AllIn s (qEnd s x) := by
  unfold qEnd
  split <;> exact in_same h rfl
section
variable {E : Env} {s : T} {dv : Bool} {x : Lx} (hp : x.pos ≤ s.length) (hs : x.start ≤ x.pos) (hA : AllIn s x)
include hp hs hA
omit hp in
theorem fail_in (n : Nat) (hn : x.pos + n ≤ s.length) : AllIn s (fail (mv n x)).1 := in_err (x := mv n x) (in_same hA rfl) (Nat.le_trans hs (Nat.le_add_right _ _)) hn
theorem done_in : AllIn s (done s x).1 := by
  unfold done
  split
  · exact in_emit (x := emitT s x) (in_emitT hA hs hp) (Nat.le_refl _) hp
  · exact in_emit hA hs hp
theorem left_in (hh : Here E s .left x) : AllIn s (left s x).1 := by
  have h3 := Lex0.pre_len (show (if x.md then lmd else lno : T).isPrefixOf (s.drop x.pos) = true from hh)
  rw [lf3, List.length_drop] at h3
  unfold left
  split
  · exact in_same hA rfl
  · exact in_same (in_emit (x := mv 3 x) (t := if x.md then 10 else 8) (in_same hA rfl) (Nat.le_trans hs (Nat.le_add_right _ _)) (by dsimp only [mv]; omega)) rfl
theorem comment_in : AllIn s (comment s x).1 := by
  unfold comment
  split
  · exact in_err hA hs hp
  · rename_i q hq
    have hb := (b_idx hq).1
    rw [List.length_append, rd3, List.length_drop] at hb
    simp only [List.length_cons, List.length_nil] at hb
    split
    · exact in_err hA hs hp
    · have h1 : AllIn s (mv (q - 2) (ign (mv 2 (emitT s x)))) := in_same (in_emitT hA hs hp) rfl
      have h2 : AllIn s (mv 3 (ign (mv 2 (emitT s (mv (q - 2) (ign (mv 2 (emitT s x)))))))) := in_same (in_emitT h1 (by dsimp only [mv, ign, emitT]; omega) (by dsimp only [mv, ign, emitT]; omega)) rfl
      exact in_emitT h2 (by dsimp only [mv, ign, emitT]; omega) (by dsimp only [mv, ign, emitT]; omega)
theorem right_in (hh : Here E s .right x) : AllIn s (right x).1 := by
  have h3 := Lex0.pre_len (show (rd x.md).isPrefixOf (s.drop x.pos) = true from hh)
  rw [rd3, List.length_drop] at h3
  unfold right
  exact in_emit (x := { mv 3 x with closing := 0 }) (in_same hA rfl) (Nat.le_trans hs (Nat.le_add_right _ _)) (by dsimp only [mv]; omega)
theorem pval_in : AllIn s (pval s x).1 := by
  have hb := b_tosp (s.drop x.pos)
  rw [List.length_drop] at hb
  unfold pval
  exact in_emit (x := mv _ x) (in_same hA rfl) (Nat.le_trans hs (Nat.le_add_right _ _)) (by dsimp only [mv]; omega)
theorem endsc_in : AllIn s (endsc s x).1 := by
  unfold endsc
  dsimp only
  split
  · exact in_same hA rfl
  · split
    · exact in_err (x := { x with inl := false }) (in_same hA rfl) hs hp
    · rename_i c r hd
      have hl := congrArg List.length hd
      rw [List.length_drop, List.length_cons] at hl
      split
      · exact in_same hA rfl
      · have hw := wd_le (c :: r)
        rw [List.length_cons] at hw
        exact fail_in (x := { x with inl := false }) hs (in_same hA rfl) _ (by dsimp only; omega)
theorem quoted_in (alw : Bool) (ty : Nat) : AllIn s (Lex0.quoted s alw ty x).1 := by
  obtain ⟨h1, h2, h3, h4⟩ := b_q alw (s.drop x.pos) 0 none false false false (by simp)
  rw [List.length_drop] at h2
  unfold Lex0.quoted
  dsimp only
  generalize qLoop alw (s.drop x.pos) 0 none false false false = q at h1 h2 h3 h4 ⊢
  have hst : stAt x q.2.2.1 ≤ x.pos + q.2.1 := by
    cases hq : q.2.2.1 with
    | none => unfold stAt; dsimp only; omega
    | some k => unfold stAt; have := h3 k hq; dsimp only; omega
  have hpy : x.pos + q.2.1 ≤ s.length := by omega
  have hy : AllIn s { x with pos := x.pos + q.2.1, start := stAt x q.2.2.1 } := in_same hA rfl
  split
  · exact in_err hy hst hpy
  · refine in_qEnd ?_
    split
    · exact in_emitE hy hst hpy
    · exact in_emitS hy hst hpy
theorem raw_in (ty : Nat) : AllIn s (raw s ty x).1 := by
  obtain ⟨h1, h2, h3, h4, h5⟩ := b_r (s.drop x.pos) 0 none false (by simp)
  rw [List.length_drop] at h2 h5
  unfold raw
  dsimp only
  generalize rLoop (s.drop x.pos) 0 none false = q at h1 h2 h3 h4 h5 ⊢
  have hst : stAt x q.2.2 ≤ x.pos + q.2.1 := by
    cases hq : q.2.2 with
    | none => unfold stAt; dsimp only; omega
    | some k => unfold stAt; have := h3 k hq; dsimp only; omega
  have hpy : x.pos + q.2.1 ≤ s.length := by omega
  have hy : AllIn s { x with pos := x.pos + q.2.1, start := stAt x q.2.2 } := in_same hA rfl
  split
  · exact in_err hy hst hpy
  · exact in_same (in_emitS hy hst hpy) rfl
theorem param_in (esc : Bool) : AllIn s (param E s esc x).1 := by
  have h1n : rn (s.drop x.pos) = 34 ∨ rn (s.drop x.pos) = 96 → x.pos + 1 ≤ s.length := fun h => by
    have hne : s.drop x.pos ≠ [] := fun h0 => by rw [h0] at h; rw [show rn [] = -1 from rfl] at h; omega
    have := List.length_pos_iff.2 hne
    rw [List.length_drop] at this
    omega
  have ff : ∀ (n : Nat), x.pos + n ≤ s.length → AllIn s (fail (mv n x)).1 := fun n hn => fail_in hs hA n hn
  unfold param
  dsimp only
  split
  · rename_i hq
    have h34 : rn (s.drop x.pos) = 34 ∨ rn (s.drop x.pos) = 96 := by rcases hq with h | h; exact .inl h; exact .inr h.1
    split
    · exact ff 1 (h1n h34)
    · split
      · exact quoted_in (x := { x with par := 1 }) hp hs (in_same hA rfl) (!esc) 15
      · exact raw_in (x := { x with par := 1 }) hp hs (in_same hA rfl) 15
  · split
    · rename_i h96
      exact ff 1 (h1n (.inr h96))
    · have hb := b_run (parR E) _ (s.drop x.pos) (Nat.le_refl _)
      rw [List.length_drop] at hb
      generalize Lex0.runN (parR E) (s.drop x.pos) = n at hb ⊢
      have hn : x.pos + n ≤ s.length := by omega
      split
      · exact in_emit (x := { mv n x with par := _ }) (in_same hA rfl) (Nat.le_trans hs (Nat.le_add_right _ _)) hn
      · split
        · exact ff n hn
        · split
          · exact ff n hn
          · exact in_emit (x := mv n x) (in_same hA rfl) (Nat.le_trans hs (Nat.le_add_right _ _)) hn
theorem ident_in : AllIn s (ident E s x).1 := by
  have hb := b_id E _ (s.drop x.pos) 0 x.inl (Nat.le_refl _)
  rw [List.length_drop] at hb
  unfold ident
  dsimp only
  generalize idLoop E (s.drop x.pos) 0 x.inl = q at hb ⊢
  have hq : x.pos + q.2.1 ≤ s.length := by omega
  have hy : AllIn s { x with pos := x.pos + q.2.1, inl := q.2.2 } := in_same hA rfl
  split
  · exact in_err hy (Nat.le_trans hs (Nat.le_add_right _ _)) hq
  · split
    · exact in_err hy (Nat.le_trans hs (Nat.le_add_right _ _)) hq
    · exact in_app hA (k := [_]) rfl fun it hi => by
        rw [List.mem_singleton.1 hi]
        exact in_mk rfl (Nat.le_trans hs (Nat.le_add_right _ _)) hq
theorem inside_in : AllIn s (inside E s x).1 := by
  unfold inside
  dsimp only
  split
  · exact hA
  · split
    · exact in_err hA hs hp
    · rename_i hne
      have hl := List.length_pos_iff.2 hne
      rw [List.length_drop] at hl
      have hw := wd_le (s.drop x.pos)
      rw [List.length_drop] at hw
      split
      · exact in_same hA rfl
      · split
        · have hb := b_sp ((s.drop x.pos).drop 1)
          rw [List.length_drop, List.length_drop] at hb
          have hy : (ign (mv (1 + spN ((s.drop x.pos).drop 1)) x)).pos ≤ s.length := by dsimp only [mv, ign]; omega
          split
          · exact quoted_in (x := ign (mv (1 + spN ((s.drop x.pos).drop 1)) x)) hy (Nat.le_refl _) (in_same hA rfl) _ 16
          · split
            · exact raw_in (x := ign (mv (1 + spN ((s.drop x.pos).drop 1)) x)) hy (Nat.le_refl _) (in_same hA rfl) 16
            · exact in_same hA rfl
        · split
          · split
            · exact fail_in hs hA 1 (by omega)
            · exact in_emit (x := { mv 1 x with closing := x.closing + 1, inl := false, step := 0 }) (in_same hA rfl) (Nat.le_trans hs (Nat.le_add_right _ _)) (by dsimp only [mv]; omega)
          · split
            · have hy : (ign (mv 1 x)).pos ≤ s.length := by dsimp only [mv, ign]; omega
              split
              · exact param_in (x := ign (mv 1 x)) hy (Nat.le_refl _) (in_same hA rfl) true
              · exact in_same hA rfl
            · split
              · exact param_in hp hs hA false
              · split
                · exact hA
                · exact fail_in hs hA _ (by omega)
theorem piece_in (hl : x.pos + 2 ≤ s.length) : AllIn s (piece E s dv x).1 := by
  unfold piece
  dsimp only
  split
  · split
    · exact in_same (in_err hA hs hp) rfl
    · exact in_same hA rfl
  · split
    · rename_i hd
      simp only [Bool.and_eq_true] at hd
      have h1 := Lex0.pre_len hd.2
      have h3 := b_sp ((s.drop x.pos).drop (divr x.org).length)
      rw [List.length_drop] at h1
      rw [List.length_drop, List.length_drop] at h3
      exact in_app hA (k := [_]) rfl fun it hi => by
        rw [List.mem_singleton.1 hi]
        exact in_mk rfl (by dsimp only [mk]; omega) (by dsimp only [mk]; omega)
    · exact in_same hA rfl
theorem main_in : AllIn s (main E s dv x).1 := by
  unfold main
  split
  · exact hA
  · split
    · exact in_same hA rfl
    · rename_i q hq
      have hb := b_found hp hs hq
      have h1 : AllIn s (mv q x) := in_same hA rfl
      split
      · exact piece_in (x := emitT s (mv q x)) (by show x.pos + q ≤ _; omega) (Nat.le_refl _) (in_emitT h1 (Nat.le_trans hs (Nat.le_add_right _ _)) (by show x.pos + q ≤ _; omega)) (by show x.pos + q + 2 ≤ _; omega)
      · exact piece_in (x := mv q x) (by show x.pos + q ≤ _; omega) (Nat.le_trans hs (Nat.le_add_right _ _)) h1 (by show x.pos + q + 2 ≤ _; omega)
theorem json_in : AllIn s (json s x).1 := by
  unfold json
  split
  · exact in_err (x := { x with pos := s.length }) (in_same hA rfl) (by dsimp only; omega) (Nat.le_refl _)
  · rename_i n hn
    have hb := b_json _ _ _ _ _ _ (Nat.le_refl _) hn
    have hc := b_crlf (s.drop (x.pos + n))
    rw [List.length_drop] at hb hc
    exact in_emit (x := mv _ x) (in_same hA rfl) (Nat.le_trans hs (Nat.le_add_right _ _)) (by dsimp only [mv]; omega)
theorem org_in : AllIn s (org s x).1 := by
  unfold org
  split
  · have hb := b_org (s.drop x.pos) 0
    rw [List.length_drop] at hb
    exact in_app hA (k := [_]) rfl fun it hi => by
      rw [List.mem_singleton.1 hi]
      exact in_mk rfl (by dsimp only [mk, mv]; omega) (by dsimp only [mk, mv]; omega)
  · exact hA
theorem fence_in (c : UInt8) (ty : Nat) : AllIn s (fence s c ty x).1 := by
  have ff : ∀ (n : Nat), x.pos + n ≤ s.length → AllIn s (fail (mv n x)).1 := fun n hn => fail_in hs hA n hn
  unfold fence
  split
  · rename_i a b r hd
    have hl := congrArg List.length hd
    rw [List.length_drop] at hl
    simp only [List.length_cons] at hl
    split
    · split
      · dsimp only
        have hc := b_crlf r
        split
        · exact in_err (x := { ign (mv (2 + crlf r) x) with pos := s.length }) (in_same hA rfl) (by dsimp only [ign, mv]; omega) (Nat.le_refl _)
        · rename_i n hn
          have hb := b_fr0 _ _ _ _ hn
          rw [List.length_drop] at hb
          simp only [List.length_cons, List.length_nil] at hb
          dsimp only [ign, mv] at hb
          exact in_same (in_emit (x := mv n (ign (mv (2 + crlf r) x))) (t := ty) (in_same hA rfl) (Nat.le_add_right _ _) (by dsimp only [ign, mv]; omega)) rfl
      · have hw := wd_le (b :: r)
        simp only [List.length_cons] at hw
        exact ff _ (by omega)
    · have hw := wd_le (a :: b :: r)
      simp only [List.length_cons] at hw
      exact ff _ (by omega)
  · rename_i a hd
    have hl := congrArg List.length hd
    rw [List.length_drop] at hl
    simp only [List.length_cons, List.length_nil] at hl
    split
    · exact ff 1 (by omega)
    · have hw := wd_le [a]
      simp only [List.length_cons, List.length_nil] at hw
      exact ff _ (by omega)
  · exact ff 0 hp
omit hp in
theorem intro_in : AllIn s (intro s x).1 := by
  have hb := b_sp (s.drop x.pos)
  rw [List.length_drop] at hb
  unfold intro
  dsimp only
  split
  · exact in_same hA rfl
  · rename_i c r hd
    have hl := congrArg List.length hd
    rw [List.length_drop] at hl
    simp only [List.length_cons, mv] at hl
    have fe : ∀ (c : UInt8) (ty : Nat), AllIn s (fence s c ty (mv 1 (mv (spN (s.drop x.pos)) x))).1 := fun c ty =>
      fence_in (x := mv 1 (mv (spN (s.drop x.pos)) x)) (by dsimp only [mv]; omega) (by dsimp only [mv]; omega) (in_same hA rfl) c ty
    split
    · exact fe _ _
    · split
      · exact fe _ _
      · split
        · exact in_same hA rfl
        · split <;> exact in_same hA rfl
end
theorem step_in {E : Env} {s : T} {dv : Bool} {st : Lex0.St} {x : Lx} (h : Lex0.Good E s st x) (hA : AllIn s x) : AllIn s (Lex0.step E s dv st x).1 := by
  obtain ⟨hp, hs, hh⟩ := h
  cases st with
  | main => exact main_in hp hs hA
  | done => exact done_in hp hs hA
  | left => exact left_in hp hs hA hh
  | comment => exact comment_in hp hs hA
  | right => exact right_in hp hs hA hh
  | inside => exact inside_in hp hs hA
  | pval => exact pval_in hp hs hA
  | ident => exact ident_in hp hs hA
  | endsc => exact endsc_in hp hs hA
  | intro => exact intro_in hs hA
  | json => exact json_in hp hs hA
  | org => exact org_in hp hs hA
theorem runs_in {E : Env} (hal : E.al (-1) = false) {s : T} {dv : Bool} {n : Nat} {st : Lex0.St} {x : Lx} {l : List Itm} (h : RunsN E s dv n st x l) : Lex0.Good E s st x → AllIn s x → (∀ it ∈ l, InI s it) ∧ l.length ≤ x.items.length + 6 * (n + 1) := by
  induction h with
  | @stop n st x y h =>
    intro hg hA
    have h1 := step_in (dv := dv) hg hA
    obtain ⟨k, h2, h3⟩ := (step_fwd (dv := dv) hal hg).1.its
    rw [h] at h1 h2
    exact ⟨h1, by dsimp only at h2; rw [h2, List.length_append]; omega⟩
  | @go n st x st' y l h _ ih =>
    intro hg hA
    have h1 := step_in (dv := dv) hg hA
    obtain ⟨k, h2, h3⟩ := (step_fwd (dv := dv) hal hg).1.its
    rw [h] at h1 h2
    dsimp only at h2
    obtain ⟨i1, i2⟩ := ih (step_good hal hg h).1 h1
    exact ⟨i1, by rw [h2, List.length_append] at i2; omega⟩
theorem parse_in (s : T) (front dv : Bool) : (∀ it ∈ parse envT s front dv, InI s it) ∧ (parse envT s front dv).length ≤ 24 * s.length + 24 := by
  obtain ⟨h1, h2⟩ := runs_in env_al (parsesN' env_al s front dv) (good0 envT s front) (fun it hi => by cases hi)
  exact ⟨h1, Nat.le_trans h2 (by show 0 + _ ≤ _; omega)⟩
end Go.Proofs.YtkehggbmpdacpabGreatDoor.Pg
namespace Go.Proofs.YtkehggbmpdacpabGreatDoor.Pg
open Go.Rx hiding bt
open Go.RowKit Go.Proofs.YtkehggbmpdacpabGreatDoor.Dec0 Go.Proofs.YtkehggbmpdacpabGreatDoor.Lex0
noncomputable def told (s : T) (front dv : Bool) : List Ti := (parse envT s front dv).map (toldI envT s)
theorem tisC_told (s : T) (front dv : Bool) : tisC s (parse envT s front dv) = (told s front dv).flatMap tiC := by
  unfold tisC told
  rw [List.flatMap_map]
theorem parse16_calls {w : World} (hT : Tab w) (bs : ByteArray) (front dv : Bool) (hbig : bs.data.toList.length ≤ 4294967296) :
    Calls Tryz.prog 28 #[.string bs, .bool front, .bool dv] w fun e w' => ∃ r : Row, e = .returned (r.val (told bs.data.toList front dv).length) ∧ Has (r.mem ((told bs.data.toList front dv).flatMap tiC) 59) w' ∧ r.ok w.heap.size 5 (told bs.data.toList front dv).length ((told bs.data.toList front dv).flatMap tiC) ∧ Below w.heap.size w w' := by
  obtain ⟨h1, h2⟩ := parse_in bs.data.toList front dv
  have := parse_calls hT bs front dv hbig _ rfl (by omega) h1
  rw [tisC_told] at this
  have e : (told bs.data.toList front dv).length = (parse envT bs.data.toList front dv).length := List.length_map _
  rw [e]
  exact this
end Go.Proofs.YtkehggbmpdacpabGreatDoor.Pg
