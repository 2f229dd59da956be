/- For the laws of ordered maps: what impl.Ordered told, read again. -/
import Derived.Test.YtmmggofbpcmliaaLawS
set_option linter.unusedVariables false
namespace Go.Proofs.Ytmmggofbpcmliaa.OrdW
open Go.Rx hiding bt
open Go.RowKit
theorem flat_get (n : Nat) : ∀ (ts : List (List Value)) (i : Nat) (cs : List Value) (k : Nat) (v : Value), (∀ c ∈ ts, c.length = n) → ts[i]? = some cs → cs[k]? = some v → ts.flatten[i * n + k]? = some v := by
  intro ts
  induction ts with
  | nil => intro i cs k v _ h; simp at h
  | cons t ts ih =>
    intro i cs k v hn h hk
    have hl : t.length = n := hn t (List.mem_cons_self ..)
    have hkn : k < cs.length := (List.getElem?_eq_some_iff.1 hk).1
    rw [List.flatten_cons]
    cases i with
    | zero =>
      simp only [List.getElem?_cons_zero, Option.some.injEq] at h
      subst h
      rw [Nat.zero_mul, Nat.zero_add, List.getElem?_append_left hkn]
      exact hk
    | succ i =>
      simp only [List.getElem?_cons_succ] at h
      rw [List.getElem?_append_right (by rw [hl, Nat.succ_mul]; omega), hl, show (i + 1) * n + k - n = i * n + k by rw [Nat.succ_mul]; omega]
      exact ih i cs k v (fun c hc => hn c (List.mem_cons_of_mem _ hc)) h hk
/-- What impl.Ordered told of steps. -/
def ToldAt (w : World) (v : Value) (steps : List OStep) : Prop := ∃ ts : List (List Value), RowAt nof w v steps.length ts.flatten ∧ ts.length = steps.length ∧ ∀ (i : Nat) cs t, ts[i]? = some cs → (orun [] steps)[i]? = some t → TCells nof w cs t
theorem told_get {w : World} {v : Value} {steps : List OStep} (h : ToldAt w v steps) {i : Nat} {x : OStep} {pre : List OStep} (hx : steps[i]? = some x) (hpre : steps.take i = pre) :
    ∃ (ad : Addr) (c : Nat) (rv kv vv : Value), v = .slice (some ad) steps.length c ∧
      (∀ (k : Nat) u, [.int .i64 (otold (oend [] pre) x).value, .bool (otold (oend [] pre) x).ok, rv, kv, vv, .int .i64 (otold (oend [] pre) x).len][k]? = some u → w.cell? ((ad.add (i * 6)).add k) = some u) ∧
      RowAt nof w rv (otold (oend [] pre) x).ranged.length (strs (otold (oend [] pre) x).ranged) ∧ RowAt nof w kv (otold (oend [] pre) x).keys.length (strs (otold (oend [] pre) x).keys) ∧
      RowAt nof w vv (otold (oend [] pre) x).values.length (ints (otold (oend [] pre) x).values) ∧ CapOk kv := by
  subst hpre
  obtain ⟨ts, ⟨A, c, rfl, hrow⟩, hl, ht⟩ := h
  have hr := orun_get steps [] i x hx
  have hlen : ∀ cs ∈ ts, cs.length = 6 := by
    intro cs hcs
    obtain ⟨j, hj⟩ := List.getElem?_of_mem hcs
    have hjl : j < steps.length := by have := (List.getElem?_eq_some_iff.1 hj).1; omega
    obtain ⟨rv, kv, vv, rfl, _⟩ := ht j cs _ hj (orun_get steps [] j _ (List.getElem?_eq_getElem hjl))
    rfl
  have hil : i < ts.length := by have := (List.getElem?_eq_some_iff.1 hx).1; omega
  have hi : ts[i]? = some ts[i] := List.getElem?_eq_getElem hil
  obtain ⟨rv, kv, vv, e, h1, h2, h3⟩ := ht i _ _ hi hr
  rw [e] at hi
  obtain ⟨ad, rfl, _, _⟩ := hrow (i * 6 + 0) _ (flat_get 6 ts i _ 0 _ hlen hi rfl)
  refine ⟨ad, c, rv, kv, vv, rfl, fun k u hk => ?_, h1, h2, h3⟩
  obtain ⟨ad', e', _, hc⟩ := hrow (i * 6 + k) u (flat_get 6 ts i _ k u hlen hi hk)
  cases e'
  rw [add_add]
  exact hc
/-- sameTexts over lists that are the same. -/
theorem same_in {X : Cx} {m : Mem} {va vb : Value} {la lb : List ByteArray} (ha : RowAt nof X.w0 va la.length (strs la)) (hb : RowAt nof X.w0 vb lb.length (strs lb)) (he : la = lb) (hl : la.length ≤ 1000000000) (hS : ∀ k, X.S k → False := by exact fun _ h => h) :
    ∀ w, Cl X m w → Calls Try.prog 20 #[va, vb] w fun e w' => e = .returned (.bool true) ∧ Cl X m w' := quietC fun w hw => by
  subst he
  exact (sameTexts_calls (ha.of_evo hw.2 hS) (hb.of_evo hw.2 hS) hl hl).mono fun e w' ⟨h1, h2⟩ => ⟨by rw [h1]; simp, h2⟩
theorem sameI_in {X : Cx} {m : Mem} {va vb : Value} {la lb : List Int} (ha : RowAt nof X.w0 va la.length (ints la)) (hb : RowAt nof X.w0 vb lb.length (ints lb)) (he : la = lb) (hl : la.length ≤ 1000000000) (hS : ∀ k, X.S k → False := by exact fun _ h => h) :
    ∀ w, Cl X m w → Calls Try.prog 30 #[va, vb] w fun e w' => e = .returned (.bool true) ∧ Cl X m w' := quietC fun w hw => by
  subst he
  exact (sameInts_calls (ha.of_evo hw.2 hS) (hb.of_evo hw.2 hS) hl hl).mono fun e w' ⟨h1, h2⟩ => ⟨by rw [h1]; simp, h2⟩
theorem ToldAt.slice {w : World} {v : Value} {steps : List OStep} (h : ToldAt w v steps) : ∃ A c, v = .slice A steps.length c := by
  obtain ⟨ts, ⟨A, c, rfl, _⟩, _⟩ := h
  exact ⟨A, c, rfl⟩
theorem bo28 : bodyB Try.prog 28 = true := by kernel_rfl
/-- impl.Ordered over a row of steps that is known. -/
theorem impl_in {X : Cx} {m : Mem} {r : Row} {steps : List OStep} {xs : List Value} {B n : Nat} (hx : xs = scells steps) (hn : n = steps.length) (hm : ∀ x ∈ r.mem xs 53, x ∈ m) (hok : r.ok B 3 n xs) (hl : n ≤ 1000000) :
    ∀ w, Cl X m w → Calls Try.prog 28 #[r.val n] w fun e w' => ∃ v, e = .returned v ∧ Cl X m w' ∧ ToldAt w' v steps := fun w hw => by
  subst hx
  subst hn
  obtain ⟨A, c, e, hst⟩ := stepAt_of hw.1 hm hok
  rw [e]
  exact (impl_calls A c steps w hl hst).mono fun e w' ⟨v, ts, h1, h2, h3, h4, h5⟩ => ⟨v, h1, hw.below h2, ts, h3, h4, h5⟩
theorem scells_snoc (l : List OStep) (s : OStep) : scells (l ++ [s]) = scells l ++ s.cells := by unfold scells; simp
theorem scells_app (l k : List OStep) : scells (l ++ k) = scells l ++ scells k := by unfold scells; simp
theorem cells_one (s : OStep) : ∀ u ∈ s.cells, u.oneCell' = true := by
  intro u hu
  simp only [OStep.cells, List.mem_cons, List.not_mem_nil, or_false] at hu
  rcases hu with rfl | rfl | rfl <;> rfl
theorem gr44 : growB Try.prog 44 53 3 32 = true := by kernel_rfl
theorem und46 : Try.prog.underlying 46 = some (.slice 50) := by kernel_rfl
theorem sz50 : szB Try.prog 50 6 = true := by kernel_rfl
theorem one48 : oneB Try.prog 48 = true := by kernel_rfl
theorem bu53k (s : ByteArray) : Try.prog.built 53 [(1, .string s)] = some [.int .i64 0, .string s, .int .i64 0].toArray := by kernel_rfl
theorem bu53ov (o v : Int) : Try.prog.built 53 [(0, .int .i64 o), (2, .int .i64 v)] = some [.int .i64 o, .string ⟨#[]⟩, .int .i64 v].toArray := by kernel_rfl
theorem bu53kv (s : ByteArray) (v : Int) : Try.prog.built 53 [(1, .string s), (2, .int .i64 v)] = some [.int .i64 0, .string s, .int .i64 v].toArray := by kernel_rfl
theorem bu53ok (o : Int) (s : ByteArray) : Try.prog.built 53 [(0, .int .i64 o), (1, .string s)] = some [.int .i64 o, .string s, .int .i64 0].toArray := by kernel_rfl
theorem bu53okv (o : Int) (s : ByteArray) (v : Int) : Try.prog.built 53 [(0, .int .i64 o), (1, .string s), (2, .int .i64 v)] = some [.int .i64 o, .string s, .int .i64 v].toArray := by kernel_rfl
/-! ### laws of the model -/
def setk (k : ByteArray) : OStep := ⟨0, k, 0⟩
theorem take_last {α : Type} (l : List α) (x : α) : (l ++ [x]).take l.length = l := by simp
theorem get_last {α : Type} (l : List α) (x : α) : (l ++ [x])[l.length]? = some x := by simp
/-- What is told of a range, behind keys that were set. -/
theorem range_told (l : List ByteArray) (n : Int) (hn : 1 ≤ n) : (otold (oend [] (l.map setk)) ⟨5, ⟨#[]⟩, n⟩).ranged = (firstsM l).take n.toNat ∧ (otold (oend [] (l.map setk)) ⟨5, ⟨#[]⟩, n⟩).keys = firstsM l := by
  have h1 : okeys (oend [] (l.map setk)) = firstsM l := by
    rw [okeys_firsts (fun x hx => by obtain ⟨k, _, rfl⟩ := List.mem_map.1 hx; rfl), List.map_map]
    congr 1
    exact List.map_id _
  generalize oend [] (l.map setk) = L at h1
  refine ⟨?_, ?_⟩
  · show (L.map (·.1)).take (rnum n) = _
    rw [show L.map (·.1) = firstsM l from h1]
    congr 1
    unfold rnum
    omega
  · show ((onext L _).map (·.1)) = _
    exact h1
/-! ### keys with their places as values -/
def seti : Nat → List ByteArray → List OStep
  | _, [] => []
  | n, k :: r => ⟨0, k, n⟩ :: seti (n + 1) r
theorem seti_len : ∀ (l : List ByteArray) (n : Nat), (seti n l).length = l.length
  | [], _ => rfl
  | _ :: r, n => by simp [seti, seti_len r]
theorem seti_snoc (s : ByteArray) : ∀ (l : List ByteArray) (n : Nat), seti n (l ++ [s]) = seti n l ++ [⟨0, s, (n + l.length : Nat)⟩]
  | [], n => by simp [seti]
  | k :: r, n => by
    show _ :: seti (n + 1) (r ++ [s]) = _
    rw [seti_snoc s r (n + 1)]
    simp only [seti, List.cons_append, List.length_cons]
    rw [show n + 1 + r.length = n + (r.length + 1) by omega]
theorem seti_op : ∀ (l : List ByteArray) (n : Nat), ∀ x ∈ seti n l, x.op = 0
  | [], n => by simp [seti]
  | k :: r, n => by
    intro x hx
    rcases List.mem_cons.1 hx with rfl | hx
    · rfl
    · exact seti_op r (n + 1) x hx
theorem seti_key : ∀ (l : List ByteArray) (n : Nat), (seti n l).map (·.key) = l
  | [], n => rfl
  | k :: r, n => by show k :: (seti (n + 1) r).map (·.key) = _; rw [seti_key r]
theorem anew_told (own : List ByteArray) (hn : own.Nodup) (i : Nat) (k : ByteArray) (hk : own[i]? = some k) : (otold (oend [] (own.map setk ++ [⟨1, k, 0⟩])) (setk k)).keys = own.take i ++ own.drop (i + 1) ++ [k] := by
  have h1 : okeys (oend [] (own.map setk)) = own := by
    rw [okeys_firsts (fun x hx => by obtain ⟨k, _, rfl⟩ := List.mem_map.1 hx; rfl), List.map_map]
    rw [show own.map ((·.key) ∘ setk) = own from List.map_id _, firsts_self hn]
  rw [oend_snoc]
  generalize oend [] (own.map setk) = L at h1
  show okeys (oset k 0 (odel k L)) = _
  rw [okeys_oset, okeys_odel, h1, fst1_new (by rw [del1_filter hn]; simp), del1_at hn hk]
theorem first_told (l : List ByteArray) (h : 0 < l.length) : ∃ (pre : List OStep) (x : OStep), seti 0 l = pre ++ [x] ∧ pre.length + 1 = l.length ∧ (otold (oend [] pre) x).keys = firstsM l ∧ (otold (oend [] pre) x).values = (firstsM l).map (fun k => oval k (oend [] (seti 0 l))) := by
  obtain ⟨q, s, rfl⟩ : ∃ q s, l = q ++ [s] := ⟨l.dropLast, l.getLast (List.ne_nil_of_length_pos h), (List.dropLast_concat_getLast _).symm⟩
  have hk : okeys (oend [] (seti 0 (q ++ [s]))) = firstsM (q ++ [s]) := by
    rw [okeys_firsts (seti_op _ _), seti_key]
  have e : seti 0 (q ++ [s]) = seti 0 q ++ [⟨0, s, (0 + q.length : Nat)⟩] := seti_snoc s q 0
  refine ⟨seti 0 q, ⟨0, s, (0 + q.length : Nat)⟩, e, by simp [seti_len], ?_, ?_⟩
  · show okeys (onext (oend [] (seti 0 q)) _) = _
    rw [← oend_snoc, ← e, hk]
  · show (onext (oend [] (seti 0 q)) _).map (fun p => oval p.1 (onext (oend [] (seti 0 q)) _)) = _
    rw [← oend_snoc, ← e, ← hk]
    unfold okeys
    rw [List.map_map]
    rfl
theorem clone_told (pre : List OStep) (k : ByteArray) (v : Int) : otold (oend [] (pre ++ [⟨3, k, 0⟩, ⟨4, k, v⟩])) ⟨3, k, 0⟩ = otold (oend [] pre) ⟨3, k, 0⟩ := by
  have h : oend [] (pre ++ [⟨3, k, 0⟩, ⟨4, k, v⟩]) = oend [] pre := by
    have hn : (okeys (oend [] pre)).Nodup := oend_nodup pre List.nodup_nil
    unfold oend at hn ⊢
    rw [List.foldl_append]
    simp only [List.foldl_cons, List.foldl_nil]
    generalize pre.foldl onext [] = L at hn
    show ocl (onext L ⟨3, k, 0⟩) (onext L ⟨3, k, 0⟩) = L
    exact ocl_self hn
  rw [h]
end Go.Proofs.Ytmmggofbpcmliaa.OrdW
