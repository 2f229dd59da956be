/- The small logic's rules for slices: elements read, rows that grow, parts of structs written; for every program. -/
import Derived.Test.YthjddnmfpdcjnaaDoorRxE
import Derived.Laws.AppendOwn
set_option linter.unusedVariables false
set_option linter.unusedSimpArgs false
namespace Go.Rx
open Go.RowKit

theorem setM_setM (m : Mem) (i : Nat) (a b : List Value) : setM (setM m i a) i b = setM m i b := by
  induction m generalizing i with
  | nil => rfl
  | cons x r ih =>
    obtain ⟨g, c, t⟩ := x
    cases i with
    | zero => rfl
    | succ i => simp [setM, ih]
theorem setM_at {m : Mem} {i g : Nat} {c : List Value} {t : TypeId} (h : m[i]? = some (g, c, t)) (c' : List Value) : (setM m i c')[i]? = some (g, c', t) := by
  induction m generalizing i with
  | nil => cases h
  | cons x r ih =>
    obtain ⟨g', c0, t'⟩ := x
    cases i with
    | zero => simp only [List.getElem?_cons_zero, Option.some.injEq, Prod.mk.injEq] at h; obtain ⟨rfl, _, rfl⟩ := h; rfl
    | succ i => simp only [List.getElem?_cons_succ] at h; simpa [setM] using ih h
/-- One block changed, all others as they were. -/
theorem Has.upd {m : Mem} {w w' : World} {i g : Nat} {c c' : List Value} {t : TypeId} (h : Has m w) (hi : m[i]? = some (g, c, t)) (hk : ∀ k, k < w.heap.size → k ≠ g → w'.heap[k]? = w.heap[k]?) (hg : w'.heap[g]? = some (.cells c'.toArray t (0, 0))) : Has (setM m i c') w' := by
  refine ⟨by rw [setM_fst]; exact h.ne, fun x hx => ?_⟩
  rcases setM_mem hi h.ne x hx with rfl | ⟨hx, hne⟩
  · exact hg
  · rw [hk _ (h.lt hx) hne]; exact h.blk x hx

section
variable {X : Cx} {P : Program} {f : Fr} {m : Mem} {d : Option Tmp} {ty : TypeId} {pos : String} {af : Array Edge} {gd : Option (Nat × Bool)}
def szB (P : Program) (e n : Nat) : Bool := match P.info? e with
  | some i => Nat.beq i.size n
  | none => false
theorem szB_eq {e n : Nat} (h : szB P e n = true) : ∃ i, P.info? e = some i ∧ i.size = n := by
  unfold szB at h
  split at h
  · rename_i i hi; exact ⟨i, hi, Nat.eq_of_beq_eq_true h⟩
  · cases h
/-- The address of an element. -/
theorem yat {x y : Operand} {p p' : Addr} {n c z : Nat} {k : IntKind} {i : Int} {t e : TypeId} (hx : evF f x = some (.slice (some p) n c)) (hy : evF f y = some (.int k i)) (ht : P.underlying t = some (.slice e)) (hz : szB P e z = true) (h0 : 0 ≤ i) (h1 : i < n) (hp : p.add (i.toNat * z) = p') :
    Yl X P f m ⟨d, .indexAddr t x y, ty, pos, af, gd⟩ (.pointer (some p')) := .of fun a w st => by
  subst hp
  obtain ⟨inf, hi, rfl⟩ := szB_eq hz
  simp [execOp, st.agr.eval hx, st.agr.eval hy, Instr.indexAt, run_underlying ht, asIntOf, h0, h1, sizeOf, typeInfo, hi]
/-- A struct read where it lies in memory that came in. -/
theorem yloadsw {x : Operand} {t : Nat} {p : Addr} {c : List Value} (hx : evF f x = some (.pointer (some p))) (hv : ∀ j v, c[j]? = some v → X.w0.cell? (p.add j) = some v) (hs : ¬ X.S p.block) (ht : aggB P t c.length = true) :
    Yl X P f m ⟨d, .load t x, ty, pos, af, gd⟩ (.agg c.toArray) := .of fun a w st => by
  obtain ⟨h1, fs, h2⟩ := aggB_size ht
  have hl : (loadCells p c.length).run P w = .ok c.toArray w := run_loadCells_list (P := P) w p c fun j v hj => by
    have hc := hv j v hj
    have hb : (p.add j).block = p.block := by unfold Addr.add; split <;> rfl
    have hlt : p.block < X.w0.heap.size := by
      rcases Nat.lt_or_ge p.block X.w0.heap.size with h | h
      · exact h
      · simp [World.cell?, hb, Array.getElem?_eq_none h] at hc
    unfold World.cell? at hc ⊢
    rw [hb] at hc ⊢
    rw [st.evo.block _ hlt hs]
    exact hc
  have hagg : (isAgg t).run P w = .ok true w := by
    unfold isAgg
    rw [Sem.run_bind, run_underlying h2 w]
    rfl
  cases hq : P.info? t with
  | none => simp [hq] at h1
  | some inf =>
    have hsz : inf.size = c.length := by simpa [hq] using h1
    simp [execOp, st.agr.eval hx, Instr.loadAt, Instr.sureAddr, loadVar, hagg, sizeOf, typeInfo, hq, hsz, hl]

variable {ops : Array Oper} {Q : Exit → Act → World → Prop} {K : Act → World → Prop} {rest : List Oper}
def setSeg : List Value → Nat → List Value → List Value
  | c, _, [] => c
  | c, o, v :: r => setSeg (setL c o v) (o + 1) r
theorem len_setL (c : List Value) (o : Nat) (v : Value) : (setL c o v).length = c.length := by rw [setL_eq, List.length_set]
theorem run_seg {i g : Nat} {tt : TypeId} (hg : X.S g ∨ X.w0.heap.size ≤ g) (vs : List Value) : ∀ (m : Mem) (c : List Value) (o j : Nat) (w : World), Has m w → Evo X.S X.w0 w → m[i]? = some (g, c, tt) → o + j + vs.length ≤ c.length → vs.all (·.oneCell') = true →
    ∃ w', (storeCells ⟨g, o, none⟩ vs j).run P w = .ok () w' ∧ Has (setM m i (setSeg c (o + j) vs)) w' ∧ Evo X.S X.w0 w' := by
  induction vs with
  | nil =>
    intro m c o j w hh he hi hl h1
    refine ⟨w, rfl, ?_, he⟩
    have : setM m i c = m := by
      clear hh he
      induction m generalizing i with
      | nil => rfl
      | cons x r ih =>
        obtain ⟨g', c0, t'⟩ := x
        cases i with
        | zero => simp only [List.getElem?_cons_zero, Option.some.injEq, Prod.mk.injEq] at hi; obtain ⟨_, rfl, _⟩ := hi; rfl
        | succ i => simp only [List.getElem?_cons_succ] at hi; simp [setM, ih hi]
    rw [setSeg, this]; exact hh
  | cons v r ih =>
    intro m c o j w hh he hi hl h1
    simp only [List.all_cons, Bool.and_eq_true] at h1
    simp only [List.length_cons] at hl
    have hlt : o + j < c.length := by omega
    have hcell := hh.cell hi (o := o + j) (v := c[o + j]) (by rw [nth_eq, List.getElem?_eq_getElem hlt])
    have hfro := hh.frozen hi (o + j)
    have hadd : (⟨g, o, none⟩ : Addr).add j = ⟨g, o + j, none⟩ := by unfold Addr.add; split <;> simp_all
    have hst : (store ((⟨g, o, none⟩ : Addr).add j) v).run P w = .ok () (w.setCell ⟨g, o + j, none⟩ v) := by
      rw [hadd, run_store P w _ v _ h1.1, hcell]
      simp [hfro]
    obtain ⟨w', e1, e2, e3⟩ := ih (setM m i (setL c (o + j) v)) (setL c (o + j) v) o (j + 1) _ (hh.set hi (o + j) v) (he.set hg (o + j) v) (setM_at hi _) (by rw [len_setL]; omega) h1.2
    refine ⟨w', ?_, ?_, e3⟩
    · simp only [storeCells, Sem.run_bind, hst, Result.andThen_ok, e1]
    · rw [setM_setM] at e2
      simpa [setSeg, Nat.add_assoc] using e2
/-- A struct written into a part of a block. -/
theorem jstorep {x y : Operand} {t g o i : Nat} {c c' : List Value} {tt : TypeId}
    (hx : evF f x = some (.pointer (some ⟨g, o, none⟩))) (hy : evF f y = some (.agg c'.toArray)) (hm : m[i]? = some (g, c, tt)) (hl : Nat.ble (o + c'.length) c.length = true) (h1 : c'.all (·.oneCell') = true) (hz : szB P t c'.length = true) (hg : X.S g ∨ X.w0.heap.size ≤ g)
    (h : J false X P ops Q K rest f (setM m i (setSeg c o c'))) : J false X P ops Q K (⟨none, .store t x y, ty, pos, af, none⟩ :: rest) f m := by
  refine jeff (ι := Unit) (v := fun _ => undef) (m' := fun _ => setM m i (setSeg c o c')) (fun _ => True) rfl rfl (fun a w st => ?_) (fun _ _ => h)
  have hl' := Nat.le_of_ble_eq_true hl
  obtain ⟨w', e1, e2, e3⟩ := run_seg (P := P) (X := X) hg c' m c o 0 w st.has st.evo hm (by omega) h1
  obtain ⟨inf, hi, hs⟩ := szB_eq hz
  refine ⟨(), w', .inr ⟨?_, rfl⟩, e2, e3, trivial⟩
  simp [execOp, st.agr.eval hx, st.agr.eval hy, Instr.storeAt, Instr.sureAddr, storeVar, Value.cells, sizeOf, typeInfo, hi, hs, e1]

theorem yslice0 {x hi : Operand} {s r : ByteArray} {k' : IntKind} {j : Int} {t : TypeId} (hx : evF f x = some (.string s)) (hh : evF f hi = some (.int k' j)) (ht : P.underlying t = some .string)
    (h0 : 0 ≤ j) (h2 : j ≤ s.size) (hr : s.extract 0 j.toNat = r) :
    Yl X P f m ⟨d, .slice t x none (some hi) none, ty, pos, af, gd⟩ (.string r) := .of fun a w st => by
  subst hr
  have hj : 0 ≤ j ∧ j ≤ (s.size : Int) := ⟨h0, h2⟩
  simp [execOp, st.agr.eval hx, st.agr.eval hh, run_sliceAt_string w t _ _ _ _ ht, Instr.slice, Instr.sliceBounds, Instr.sliceBound, asIntOf, run_underlying ht, hj]
theorem ysliceE {x lo : Operand} {s r : ByteArray} {k : IntKind} {i : Int} {t : TypeId} (hx : evF f x = some (.string s)) (hl : evF f lo = some (.int k i)) (ht : P.underlying t = some .string)
    (h0 : 0 ≤ i) (h2 : i ≤ s.size) (hr : s.extract i.toNat s.size = r) :
    Yl X P f m ⟨d, .slice t x (some lo) none none, ty, pos, af, gd⟩ (.string r) := .of fun a w st => by
  subst hr
  have hj : 0 ≤ i ∧ i ≤ (s.size : Int) := ⟨h0, h2⟩
  simp [execOp, st.agr.eval hx, st.agr.eval hl, run_sliceAt_string w t _ _ _ _ ht, Instr.slice, Instr.sliceBounds, Instr.sliceBound, asIntOf, run_underlying ht, hj]
theorem yextractL {x : Operand} {i : Nat} {vs : List Value} {v : Value} (hx : evF f x = some (.tuple vs.toArray)) (hv : nth vs i = some v) : Yl X P f m ⟨d, .extract x i, ty, pos, af, gd⟩ v := .of fun a w s => by
  rw [nth_eq] at hv
  simp [execOp, s.agr.eval hx, Instr.extract, hv]
/-- A Bool that is known by a name alone: the walk is parted. -/
theorem jcases {qt : Bool} {l : List Oper} {dd : Nat} {b : Bool} (ht : b = true → J qt X P ops Q K l ((dd, .bool true) :: f) m) (hf : b = false → J qt X P ops Q K l ((dd, .bool false) :: f) m) : J qt X P ops Q K l ((dd, .bool b) :: f) m := by
  cases b
  · exact hf rfl
  · exact ht rfl

/-- A callee that changes one known block. -/
theorem Cl.upd {m : Mem} {w w' : World} {i g : Nat} {c c' : List Value} {t : TypeId} (h : Cl X m w) (hi : m[i]? = some (g, c, t)) (hg : X.S g ∨ X.w0.heap.size ≤ g) (hB : w'.os = w.os ∧ w'.tape = w.tape ∧ w'.output = w.output) (hs : w.heap.size ≤ w'.heap.size) (hk : ∀ k, k < w.heap.size → k ≠ g → w'.heap[k]? = w.heap[k]?) (hc : w'.heap[g]? = some (.cells c'.toArray t (0, 0))) : Cl X (setM m i c') w' := by
  refine ⟨h.1.upd hi hk hc, hB.1.trans h.2.os, hB.2.1.trans h.2.tape, hB.2.2.trans h.2.output, Nat.le_trans h.2.size hs, fun k hk' hs' => ?_⟩
  have := h.2.size
  rw [hk k (by omega) (by rintro rfl; rcases hg with hg | hg; exact hs' hg; omega)]
  exact h.2.block k hk' hs'

/-! ### rows that grow -/
inductive Row where
  | nil
  | at (g cap : Nat) (rest : List Value)
def Row.val : Row → Nat → Value
  | .nil, _ => .slice none 0 0
  | .at g cap _, n => .slice (some ⟨g, 0, none⟩) n cap
def Row.mem : Row → List Value → TypeId → Mem
  | .nil, _, _ => []
  | .at g _ r, xs, e => [(g, xs ++ r, e)]
def Row.ok (B size : Nat) : Row → Nat → List Value → Prop
  | .nil, n, xs => n = 0 ∧ xs = []
  | .at g cap r, n, xs => B ≤ g ∧ xs.length = n * size ∧ n ≤ cap ∧ cap ≤ maxLen ∧ xs.length + r.length = cap * size
theorem Row.owns {B size : Nat} {r : Row} {n : Nat} {xs : List Value} {e : TypeId} {m0 : Mem} {w : World} (hr : r.ok B size n xs) (h : Has (m0 ++ r.mem xs e) w) : w.ownsRow B e size (r.val n) n xs := by
  cases r with
  | nil => obtain ⟨rfl, rfl⟩ := hr; exact World.ownsRow_nil _ _ _ _
  | «at» g cap r =>
    obtain ⟨h1, h2, h3, h4, h5⟩ := hr
    refine ⟨h2, .inr ⟨g, cap, (xs ++ r).toArray, rfl, h1, h.blk (g, xs ++ r, e) (by simp [Row.mem]), h3, h4, by simpa using h5, by simp [← h2]⟩⟩
theorem Row.of_owns {B size : Nat} {v : Value} {n : Nat} {xs : List Value} {e : TypeId} {w : World} (h : w.ownsRow B e size v n xs) : ∃ r : Row, v = r.val n ∧ r.ok B size n xs ∧ ∀ x ∈ r.mem xs e, w.heap[x.1]? = some (.cells x.2.1.toArray x.2.2 (0, 0)) := by
  obtain ⟨h1, ⟨rfl, rfl⟩ | ⟨g, cap, cur, rfl, h2, h3, h4, h5, h6, h7⟩⟩ := h
  · exact ⟨.nil, rfl, ⟨rfl, by simpa using h1⟩, by simp [Row.mem]⟩
  · have hc : xs ++ cur.toList.drop (n * size) = cur.toList := by rw [← h7]; exact List.take_append_drop _ _
    refine ⟨.at g cap (cur.toList.drop (n * size)), rfl, ⟨h2, h1, h4, h5, ?_⟩, fun x hx => ?_⟩
    · have := congrArg List.length hc
      simp only [List.length_append, Array.length_toList] at this
      omega
    · simp only [Row.mem, List.mem_singleton] at hx
      subst hx
      simp [hc, h3]
def growB (P : Program) (t e size bytes : Nat) : Bool := match P.underlying t, P.info? e with
  | some (.slice e'), some i => Nat.beq e' e && Nat.beq i.size size && Nat.beq i.bytes bytes && (match i.zero with | some z => Nat.beq z.cells.size size | none => false)
  | _, _ => false
theorem growB_eq {t e size bytes : Nat} (h : growB P t e size bytes = true) : P.underlying t = some (.slice e) ∧ ∃ i z, P.info? e = some i ∧ i.zero = some z ∧ i.size = size ∧ i.bytes = bytes ∧ z.cells.size = size := by
  unfold growB at h
  split at h
  · rename_i e' i hu hi
    simp only [Bool.and_eq_true] at h
    obtain ⟨⟨⟨h1, h2⟩, h3⟩, h4⟩ := h
    obtain rfl := Nat.eq_of_beq_eq_true h1
    split at h4
    · rename_i z hz
      exact ⟨hu, i, z, hi, hz, Nat.eq_of_beq_eq_true h2, Nat.eq_of_beq_eq_true h3, Nat.eq_of_beq_eq_true h4⟩
    · cases h4
  · cases h
/-- One element more. -/
theorem jappend {dd : Nat} {x y : Operand} {t e size bytes gx cx i n : Nat} {e' : TypeId} {news xs : List Value} {r : Row} (m0 : Mem) (k0 : Nat) (hty : (m0.drop k0).all (fun x => !Nat.beq x.2.2 e) = true) (hm : m = m0 ++ r.mem xs e) (hs : evF f x = some (r.val n)) (hx : evF f y = some (.slice (some ⟨gx, 0, none⟩) 1 cx)) (hi : m0[i]? = some (gx, news, e'))
    (hl : news.length = size) (h1 : news.all (·.oneCell') = true) (hr : r.ok X.w0.heap.size size n xs) (hg : growB P t e size bytes = true) (h0 : Nat.blt 0 size = true) (hn : n + 1 ≤ maxLen) (hb : (n + 1) * bytes ≤ 140737488355328) (hd : Nat.blt dd X.n = true)
    (h : ∀ r' : Row, r'.ok X.w0.heap.size size (n + 1) (xs ++ news) → J false X P ops Q K rest ((dd, r'.val (n + 1)) :: f) (m0.drop k0 ++ r'.mem (xs ++ news) e)) :
    J false X P ops Q K (⟨some dd, .call ⟨.builtin .append, #[x, y], #[t, t]⟩, ty, pos, af, none⟩ :: rest) f m := by
  subst hm
  refine jeff (ι := Row) (v := fun r' => r'.val (n + 1)) (m' := fun r' => m0.drop k0 ++ r'.mem (xs ++ news) e) (fun r' => r'.ok X.w0.heap.size size (n + 1) (xs ++ news)) rfl hd (fun a w st => ?_) (fun r' hr' => h r' hr')
  obtain ⟨hu, inf, z, q1, q2, q3, q4, q5⟩ := growB_eq hg
  have hown := Row.owns (e := e) hr st.has
  have hi' : (m0 ++ r.mem xs e)[i]? = some (gx, news, e') := by rw [List.getElem?_append_left (List.getElem?_eq_some_iff.1 hi).1]; exact hi
  obtain ⟨v', w', e1, e2, e3, _⟩ := run_append_own (P := P) w X.w0.heap.size t ty e inf z size bytes hu q1 q2 q3 q4 q5 (by simpa using h0) (r.val n) n xs hown ⟨gx, 0, none⟩ 1 cx news (by simpa using hl)
    (fun j u hj => by
      have hadd : (⟨gx, 0, none⟩ : Addr).add j = ⟨gx, j, none⟩ := by unfold Addr.add; split <;> simp_all
      rw [hadd]
      exact st.has.cell hi' (by rw [nth_eq]; exact hj)) (by simpa using h1) hn hb st.evo.size
  obtain ⟨r', rfl, hr', hm'⟩ := Row.of_owns e2
  refine ⟨r', w', .inl ?_, ?_, ?_, hr'⟩
  · simp only [execOp, resolve, invoke, builtin, Sem.run_bind, Sem.run_pure, Result.andThen_ok, List.map_toArray, List.map_cons, List.map_nil, st.agr.eval hs, st.agr.eval hx, e1]
  · have hne := st.has.ne
    rw [List.map_append, List.nodup_append] at hne
    have hkeep : ∀ x ∈ m0, w'.heap[x.1]? = some (.cells x.2.1.toArray x.2.2 (0, 0)) := fun x hx => by
      rw [e3.block _ (st.has.lt (List.mem_append_left _ hx)) ?_]
      · exact st.has.blk x (List.mem_append_left _ hx)
      · cases r with
        | nil => simp [Row.val, Value.ownBlock]
        | «at» g cap rr =>
          simp only [Row.val, Value.ownBlock, ne_eq, Option.some.injEq]
          exact hne.2.2 _ (List.mem_map_of_mem hx) _ (by simp [Row.mem])
    refine ⟨?_, fun x hx => ?_⟩
    · rw [List.map_append, List.nodup_append]
      refine ⟨((List.drop_sublist k0 m0).map _).nodup hne.1, by cases r' <;> simp [Row.mem], fun a ha b hb' => ?_⟩
      obtain ⟨x, hx, rfl⟩ := List.mem_map.1 ha
      cases r' with
      | nil => simp [Row.mem] at hb'
      | «at» g' cap' rr' =>
        simp only [Row.mem, List.map_cons, List.map_nil, List.mem_singleton] at hb'
        subst hb'
        rintro rfl
        have a1 := hkeep x (List.mem_of_mem_drop hx)
        have a2 := hm' _ (List.mem_singleton.2 rfl)
        dsimp only at a2
        rw [a1] at a2
        injection a2 with a2
        injection a2 with _ a3
        have a4 := List.all_eq_true.1 hty x hx
        simp [a3] at a4
    · simp only [List.mem_append] at hx
      rcases hx with hx | hx
      · exact hkeep x (List.mem_of_mem_drop hx)
      · exact hm' x hx
  · refine ⟨e3.os.trans st.evo.os, e3.tape.trans st.evo.tape, e3.output.trans st.evo.output, Nat.le_trans st.evo.size e3.size, fun k hk hs' => ?_⟩
    have := st.evo.size
    rw [e3.block k (by omega) ?_]
    · exact st.evo.block k hk hs'
    · cases r with
      | nil => simp [Row.val, Value.ownBlock]
      | «at» g cap rr =>
        simp only [Row.val, Value.ownBlock, ne_eq, Option.some.injEq]
        have := hr.1
        omega
/-- .. where the first k1 of what is known stand before the row, and the first k0 of these are let go. -/
theorem jappendK {dd : Nat} {x y : Operand} {t e size bytes gx cx i n : Nat} {e' : TypeId} {xs : List Value} {r : Row} (k1 k0 : Nat) (news : List Value) (hs : evF f x = some (r.val n)) (hx : evF f y = some (.slice (some ⟨gx, 0, none⟩) 1 cx)) (hi : (m.take k1)[i]? = some (gx, news, e'))
    (hm : m = m.take k1 ++ r.mem xs e) (hr : r.ok X.w0.heap.size size n xs) (hty : ((m.take k1).drop k0).all (fun x => !Nat.beq x.2.2 e) = true)
    (hl : news.length = size) (h1 : news.all (·.oneCell') = true) (hg : growB P t e size bytes = true) (h0 : Nat.blt 0 size = true) (hn : n + 1 ≤ maxLen) (hb : (n + 1) * bytes ≤ 140737488355328) (hd : Nat.blt dd X.n = true)
    (h : ∀ r' : Row, r'.ok X.w0.heap.size size (n + 1) (xs ++ news) → J false X P ops Q K rest ((dd, r'.val (n + 1)) :: f) ((m.take k1).drop k0 ++ r'.mem (xs ++ news) e)) :
    J false X P ops Q K (⟨some dd, .call ⟨.builtin .append, #[x, y], #[t, t]⟩, ty, pos, af, none⟩ :: rest) f m :=
  jappend (m.take k1) k0 hty hm hs hx hi hl h1 hr hg h0 hn hb hd h
theorem foldl_set (l : List Value) : ∀ (k : Nat) (cs : Array Value), cs.size = k + l.length → (l.zipIdx k).foldl (fun cs (q : Value × Nat) => cs.setIfInBounds q.2 q.1) cs = (cs.toList.take k ++ l).toArray := by
  induction l with
  | nil => intro k cs h; simp at h ⊢; rw [List.take_of_length_le (by simp; omega)]
  | cons v r ih =>
    intro k cs h
    simp only [List.length_cons] at h
    simp only [List.zipIdx_cons, List.foldl_cons]
    rw [ih (k + 1) _ (by simp; omega)]
    congr 1
    simp only [Array.toList_setIfInBounds]
    rw [List.take_succ_eq_append_getElem (by simp; omega), List.take_set]
    simp
    rw [List.set_eq_of_length_le (by simp; omega)]
/-- A literal of one element. -/
theorem jlit1 {dd : Nat} {x : Operand} {t e size bytes : Nat} {c : List Value} {v : Value} (hx : evF f x = some v) (hc : v.cells = c.toArray) (hl : c.length = size) (hg : growB P t e size bytes = true) (h0 : Nat.blt 0 size = true) (h1 : Nat.ble size 1000 = true) (hd : Nat.blt dd X.n = true)
    (h : ∀ g, X.w0.heap.size ≤ g → J false X P ops Q K rest ((dd, .slice (some ⟨g, 0, none⟩) 1 1) :: f) ((g, c, e) :: m)) : J false X P ops Q K (⟨some dd, .buildSlice t 1 #[(0, x)], ty, pos, af, none⟩ :: rest) f m := by
  refine jeff (ι := Nat) (v := fun g => .slice (some ⟨g, 0, none⟩) 1 1) (m' := fun g => (g, c, e) :: m) (fun g => X.w0.heap.size ≤ g) rfl hd (fun a w st => ⟨w.heap.size, w.alloc (.cells c.toArray e), .inl ?_, st.has.push _ _, st.evo.push _, st.evo.size⟩) (fun g hg => h g hg)
  obtain ⟨hu, inf, z, q1, q2, q3, q4, q5⟩ := growB_eq hg
  have h0' : 0 < size := by simpa using h0
  have h1' := Nat.le_of_ble_eq_true h1
  have hfill : Instr.fill (fun i => some (i * size, size)) ((Array.range (1 * size)).map (z.cells[· % z.cells.size]!)) [(0, v)] = some c.toArray := by
    have hv : v.cells.size = size := by rw [hc]; simpa using hl
    simp only [Instr.fill]
    rw [if_neg (by simp [hv])]
    congr 1
    simp only [Nat.zero_mul, Nat.zero_add]
    rw [hc, ← Array.foldl_toList, Array.toList_zipIdx]
    rw [foldl_set c 0 _ (by simp [hl])]
    simp
  simp only [execOp, Instr.buildSlice, List.map_toArray, List.map_cons, List.map_nil, st.agr.eval hx, Sem.run_bind, run_underlying hu, Result.andThen_ok, sizeOf, typeInfo, program, Sem.run, q1, Sem.run_pure, q3]
  rw [if_neg (by omega), if_neg (by omega)]
  simp only [zeroValue, typeInfo, program, Sem.run_bind, Sem.run, q1, q2, Sem.run_pure, Result.andThen_ok, hfill]
  simp [newRow, run_newObj]
end
end Go.Rx
