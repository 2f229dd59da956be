/- spec.Ordered: its helpers over a row of pairs. -/
import Derived.Test.YtmmggofbpcmliaaLawT
import Derived.Test.YtmmggofbpcmliaaAnyZ
set_option linter.unusedVariables false
namespace Go.Proofs.Ytmmggofbpcmliaa.OrdS
open Go.Rx hiding bt
open Go.RowKit Go.Proofs.Ytmmggofbpcmliaa.OrdW
/-! ### pairs -/
def pcs : OL → List Value
  | [] => []
  | p :: l => .string p.1 :: .int .i64 p.2 :: pcs l
theorem pcs_len (l : OL) : (pcs l).length = l.length * 2 := by
  induction l with
  | nil => rfl
  | cons p l ih => simp only [pcs, List.length_cons, ih]; omega
theorem pcs_one (l : OL) : ∀ u ∈ pcs l, u.oneCell' = true := by
  induction l with
  | nil => simp [pcs]
  | cons p l ih =>
    intro u hu
    simp only [pcs, List.mem_cons] at hu
    rcases hu with rfl | rfl | h
    · rfl
    · rfl
    · exact ih u h
theorem pcs_app (a b : OL) : pcs (a ++ b) = pcs a ++ pcs b := by
  induction a with
  | nil => rfl
  | cons p l ih => simp [pcs, ih]
theorem pcs_get {l : OL} {j : Nat} {p : ByteArray × Int} (h : l[j]? = some p) : (pcs l)[j * 2]? = some (.string p.1) ∧ (pcs l)[j * 2 + 1]? = some (.int .i64 p.2) := by
  induction l generalizing j with
  | nil => simp at h
  | cons q l ih =>
    cases j with
    | zero => simp only [List.getElem?_cons_zero, Option.some.injEq] at h; subst h; exact ⟨rfl, rfl⟩
    | succ j =>
      simp only [List.getElem?_cons_succ] at h
      obtain ⟨h1, h2⟩ := ih h
      rw [show (j + 1) * 2 = j * 2 + 1 + 1 by omega]
      exact ⟨by simpa [pcs] using h1, by simpa [pcs] using h2⟩
theorem pcs_take (l : OL) (i : Nat) : (pcs l).take (i * 2) = pcs (l.take i) := by
  induction l generalizing i with
  | nil => simp [pcs]
  | cons p l ih =>
    cases i with
    | zero => simp [pcs]
    | succ i => rw [show (i + 1) * 2 = i * 2 + 1 + 1 by omega]; simp [pcs, ih]
theorem pcs_drop (l : OL) (i : Nat) : (pcs l).drop (i * 2) = pcs (l.drop i) := by
  induction l generalizing i with
  | nil => simp [pcs]
  | cons p l ih =>
    cases i with
    | zero => simp [pcs]
    | succ i => rw [show (i + 1) * 2 = i * 2 + 1 + 1 by omega]; simp [pcs, ih]
theorem setL_pcs (l : OL) (rr : List Value) (i : Nat) (p : ByteArray × Int) (v : Int) (h : l[i]? = some p) : setL (pcs l ++ rr) (i * 2 + 1) (.int .i64 v) = pcs (l.set i (p.1, v)) ++ rr := by
  induction l generalizing i with
  | nil => simp at h
  | cons q l ih =>
    cases i with
    | zero => simp only [List.getElem?_cons_zero, Option.some.injEq] at h; subst h; rfl
    | succ i =>
      simp only [List.getElem?_cons_succ] at h
      rw [show (i + 1) * 2 + 1 = (i * 2 + 1) + 1 + 1 by omega]
      show .string q.1 :: .int .i64 q.2 :: setL (pcs l ++ rr) (i * 2 + 1) _ = _
      rw [ih i h]
      rfl
/-- The place of a key; the length, where it is not there. -/
def oat (k : ByteArray) : OL → Nat
  | [] => 0
  | p :: l => if p.1 = k then 0 else oat k l + 1
theorem oat_le (k : ByteArray) (l : OL) : oat k l ≤ l.length := by
  induction l with
  | nil => exact Nat.le_refl _
  | cons p l ih =>
    unfold oat
    split
    · exact Nat.zero_le _
    · simp only [List.length_cons]; omega
theorem oat_step {k : ByteArray} {l : OL} {j : Nat} {p : ByteArray × Int} (h : l[j]? = some p) (hj : j ≤ oat k l) : (p.1 = k → oat k l = j) ∧ (p.1 ≠ k → j + 1 ≤ oat k l) := by
  induction l generalizing j with
  | nil => simp at h
  | cons q l ih =>
    unfold oat at hj ⊢
    cases j with
    | zero =>
      simp only [List.getElem?_cons_zero, Option.some.injEq] at h
      subst h
      exact ⟨fun e => by rw [if_pos e], fun e => by rw [if_neg e]; omega⟩
    | succ j =>
      simp only [List.getElem?_cons_succ] at h
      split at hj
      · omega
      · rename_i e
        rw [if_neg e]
        obtain ⟨h1, h2⟩ := ih h (by omega)
        exact ⟨fun c => by rw [h1 c], fun c => by have := h2 c; omega⟩
theorem oat_get {k : ByteArray} {l : OL} (h : oat k l < l.length) : ∃ u, l[oat k l]? = some (k, u) ∧ oget k l = some u := by
  induction l with
  | nil => simp at h
  | cons q l ih =>
    obtain ⟨a, u⟩ := q
    unfold oat at h; unfold oat oget
    by_cases e : a = k
    · subst e; simp
    · simp only [if_neg e] at h ⊢
      obtain ⟨u, h1, h2⟩ := ih (by simpa using h)
      exact ⟨u, by simpa using h1, h2⟩
theorem oat_none {k : ByteArray} {l : OL} (h : ¬ oat k l < l.length) : oget k l = none := by
  induction l with
  | nil => rfl
  | cons q l ih =>
    obtain ⟨a, u⟩ := q
    unfold oat at h; unfold oget
    by_cases e : a = k
    · rw [if_pos e] at h; simp at h
    · rw [if_neg e] at h ⊢
      exact ih (by simpa using h)
theorem oset_at {k : ByteArray} {v : Int} {l : OL} (h : oat k l < l.length) : oset k v l = l.set (oat k l) (k, v) := by
  induction l with
  | nil => simp at h
  | cons q l ih =>
    obtain ⟨a, u⟩ := q
    unfold oat at h; unfold oat oset
    by_cases e : a = k
    · rw [if_pos e, if_pos e]; rfl
    · rw [if_neg e] at h ⊢
      rw [if_neg e, ih (by simpa using h)]
      rfl
theorem odel_at {k : ByteArray} {l : OL} (h : oat k l < l.length) : odel k l = l.take (oat k l) ++ l.drop (oat k l + 1) := by
  induction l with
  | nil => simp at h
  | cons q l ih =>
    obtain ⟨a, u⟩ := q
    unfold oat at h; unfold oat odel
    by_cases e : a = k
    · rw [if_pos e, if_pos e]; simp
    · rw [if_neg e] at h ⊢
      rw [if_neg e, ih (by simpa using h)]
      simp
theorem odel_none {k : ByteArray} {l : OL} (h : ¬ oat k l < l.length) : odel k l = l := by
  induction l with
  | nil => rfl
  | cons q l ih =>
    obtain ⟨a, u⟩ := q
    unfold oat at h; unfold odel
    by_cases e : a = k
    · rw [if_pos e] at h; simp at h
    · rw [if_neg e] at h ⊢
      rw [ih (by simpa using h)]
def oati (k : ByteArray) (l : OL) : Int := if oat k l < l.length then (oat k l : Int) else -1
/-! ### rows of any width -/
theorem src_at {X : Cx} {m : Mem} {r : Row} {n c B z : Nat} {A : Option Addr} {xs : List Value} {e : TypeId} (hA : r.val n = .slice A n c) (hok : r.ok B z n xs) (hm : ∀ x ∈ r.mem xs e, x ∈ m) : Src X m A xs := by
  cases r with
  | nil =>
    obtain ⟨_, h2⟩ := hok
    subst h2
    exact src_nil _ _ _
  | «at» g cap rr =>
    cases hA
    refine fun w hw j u hj => ⟨_, rfl, ?_⟩
    have hb : w.heap[g]? = some (.cells (xs ++ rr).toArray e (0, 0)) := hw.1.blk (g, xs ++ rr, e) (hm _ (by simp [Row.mem]))
    rw [add_lit]
    simp only [World.cell?, hb]
    rw [List.getElem?_toArray, List.getElem?_append_left (List.getElem?_eq_some_iff.1 hj).1, hj]
    simp
theorem row_slice {r : Row} {n B z : Nat} {xs : List Value} (hok : r.ok B z n xs) : ∃ A c, r.val n = .slice A n c := by
  cases r with
  | nil => obtain ⟨rfl, _⟩ := hok; exact ⟨_, _, rfl⟩
  | «at» g cap rr => exact ⟨_, _, rfl⟩
theorem src_rowN {X : Cx} {m : Mem} {r : Row} {n B z : Nat} {xs : List Value} {e : TypeId} (hm : ∀ x ∈ r.mem xs e, x ∈ m) (hok : r.ok B z n xs) : ∃ A c, r.val n = .slice A n c ∧ Src X m A xs := by
  obtain ⟨A, c, hA⟩ := row_slice hok
  exact ⟨A, c, hA, src_at hA hok hm⟩
theorem jappendNilN {X : Cx} {P : Program} {f : Fr} {m : Mem} {ty : TypeId} {pos : String} {af : Array Edge} {ops : Array Oper} {Q : Exit → Act → World → Prop} {K : Act → World → Prop} {rest : List Oper} {dd : Nat} {y : Operand} {t e z bytes n c : Nat} {A : Option Addr} {xs : List Value} (mm : Row → Mem) (hmm : ∀ r' : Row, (m ++ r'.mem xs e).Perm (mm r')) (hx : evF f y = some (.slice A n c)) (hsrc : Src X m A xs) (hl : xs.length = n * z) (h1 : ∀ u ∈ xs, u.oneCell' = true) (hg : growB P t e z bytes = true) (h0 : 0 < z) (hn : n ≤ maxLen) (hb : n * bytes ≤ 140737488355328) (hd : Nat.blt dd X.n = true)
    (h : ∀ r' : Row, r'.ok 0 z n xs → r'.may X → J false X P ops Q K rest ((dd, r'.val n) :: f) (mm r')) :
    J false X P ops Q K (⟨some dd, .call ⟨.builtin .append, #[.const (.slice none 0 0), y], #[t, t]⟩, ty, pos, af, none⟩ :: rest) f m := by
  refine jappendP (B := 0) (k := n) (n := 0) (xs := []) (r := .nil) m mm (by simp [Row.mem]) (fun r' => by simpa using hmm r') rfl hx hsrc hl h1 ⟨rfl, rfl⟩ (Nat.zero_le _) trivial hg h0 (by omega) (by simpa using hb) hd (fun r' h1 h2 => ?_)
  simp only [Nat.zero_add, List.nil_append] at h1 ⊢
  exact h r' h1 h2
/-! ### ordAt -/
theorem und85 : Try.prog.underlying 85 = some (.slice 89) := by kernel_rfl
theorem gr85 : growB Try.prog 85 89 2 24 = true := by kernel_rfl
theorem sz89 : szB Try.prog 89 2 = true := by kernel_rfl
theorem fb89_0 : fieldB Try.prog 89 0 = some 0 := by kernel_rfl
theorem fb89_1 : fieldB Try.prog 89 1 = some 1 := by kernel_rfl
theorem bu89 (k : ByteArray) (v : Int) : Try.prog.built 89 [(0, .string k), (1, .int .i64 v)] = some [.string k, .int .i64 v].toArray := by kernel_rfl
theorem bo59 : bodyB Try.prog 59 = true := by kernel_rfl
theorem bo60 : bodyB Try.prog 60 = true := by kernel_rfl
theorem bo61 : bodyB Try.prog 61 = true := by kernel_rfl
set_option maxRecDepth 100000 in
theorem oat_calls {w : World} {v : Value} {l : OL} (k : ByteArray) (ha : RowAt nof w v l.length (pcs l)) (hl : l.length ≤ 1000000000) : Calls Try.prog 59 #[v, .string k] w fun e w' => e = .returned (.int .i64 (oati k l)) ∧ Below w.heap.size w w' := by
  obtain ⟨A, c, rfl, hel⟩ := ha
  refine enter (fun _ => False) 20 [] Try.func59 rfl rfl rfl (vs := [.slice A l.length c, .string k]) (Has.nil _) ?_
  conv => arg 2; arg 2; whnf
  have post : ∀ (f : Fr) (m : Mem), Rx.look f 4 = some (.int .i64 (oati k l)) → PJ ⟨20, [], fun _ => False, w⟩ (bodyPost Try.prog Try.f59 (fun e w' => e = .returned (.int .i64 (oati k l)) ∧ Below w.heap.size w w') .ret) f m := fun f m hf =>
    ret1 rfl rfl hf (fun w' hw' => ⟨rfl, hw'.2.below (fun k _ h => h) (Nat.le_refl _)⟩)
  repeat' (first | (show PJ _ (Code.wp _ _ _) _ _; first | refine cseq ?_ | refine rtext ?_ | refine ctrue rfl ?_ | refine cfalse rfl ?_ | refine cskip ?_ | refine cblk ?_ | refine cret ?_ | refine cexit ?_ | refine csplit' rfl (fun hq => ?_) (fun hq => ?_)  | refine rquiet mixed (by kernel_rfl) ?_) | (show PJ _ (Exit.then _ _ _) _ _; first | refine tnorm ?_ | refine tret ?_ | refine texit ?_) | (show PJ _ (Exit.inBlock _ _ _) _ _; first | refine bnorm ?_ | refine bret ?_ | refine bexit ?_ | refine bother rfl ?_) | (show PJ _ (wpList _ _ _ _) _ _; refine jlist ?_) | (show J _ _ _ _ _ _ [] _ _; refine jnil ?_) | (show J _ _ _ _ _ _ (_ :: _) _ _; first  | refine js rfl rfl ?_ | (show J _ _ _ _ _ _ (⟨_, .move _, _, _, _, _⟩ :: _) _ _; refine jy (ymove rfl) rfl rfl ?_) | (show J _ _ _ _ _ _ (⟨_, .nilCheck _, _, _, _, _⟩ :: _) _ _; refine jy (ynil rfl) rfl rfl ?_) | (show J _ _ _ _ _ _ (⟨_, .fieldAddr _ _ _, _, _, _, _⟩ :: _) _ _; refine jy (yfield rfl (by first | fail) rfl) rfl rfl ?_) | (show J _ _ _ _ _ _ (⟨_, .load _ _, _, _, _, _⟩ :: _) _ _; first | refine jy (yload (i := 0) rfl rfl rfl (by first | exact one3 | exact one9 | exact one28 | exact one48)) rfl rfl ?_ | refine jy (yload (i := 1) rfl rfl rfl (by first | exact one3 | exact one9 | exact one28 | exact one48)) rfl rfl ?_ | refine jy (yloads (i := 0) rfl rfl (by first | exact ag50)) rfl rfl ?_ ) | (show J _ _ _ _ _ _ (⟨_, .assign _, _, _, _, _⟩ :: _) _ _; refine jy (yassign rfl) rfl rfl ?_) | (show J _ _ _ _ _ _ (⟨_, .binOp _ _ _ _ _, _, _, _, _⟩ :: _) _ _; first | refine jy (yadd (c := ((j + 1 : Nat) : Int)) rfl rfl (by rw [i64_in (by omega) (by omega)]; omega)) rfl rfl ?_ | (show J _ _ _ _ _ _ (⟨_, .binOp .eql 9 _ _ _, _, _, _, _⟩ :: _) _ _; refine jy (yseql rfl rfl rfl) rfl rfl ?_) | refine jy (yadd rfl rfl (i64_in (by omega) (by omega))) rfl rfl ?_ | refine jy (ylss rfl rfl (by first | exact decide_eq_true (by omega) | exact decide_eq_false (by omega))) rfl rfl ?_ | refine jlss rfl rfl rfl rfl (fun hq => ?_) (fun hq => ?_) | refine jy (yeql rfl rfl (by first | exact decide_eq_true (by omega) | exact decide_eq_false (by omega))) rfl rfl ?_ | refine jeql rfl rfl rfl rfl (fun hq => ?_) (fun hq => ?_) | refine jy (ygeq rfl rfl (by first | exact decide_eq_true (by omega) | exact decide_eq_false (by omega))) rfl rfl ?_ | refine jgeq rfl rfl rfl rfl (fun hq => ?_) (fun hq => ?_)) | (show J _ _ _ _ _ _ (⟨_, .store _ _ _, _, _, _, _⟩ :: _) _ _; first | refine jstore (i := 0) rfl rfl rfl rfl rfl (by first | exact si28 | exact si3 | exact si4 | exact si48) (by first | exact hS | exact .inr hT) ?_ | refine jstore (i := 1) rfl rfl rfl rfl rfl (by first | exact si28 | exact si3 | exact si4 | exact si48) (by first | exact hS | exact .inr hT) ?_ | refine jstores (i := 0) rfl rfl rfl rfl rfl (by first | exact si28 | exact si3 | exact si4 | exact si48) (.inr hT) ?_ ) | (show J _ _ _ _ _ _ (⟨_, .pick _ _ _, _, _, _, _⟩ :: _) _ _; first | refine jy (ypick1 rfl rfl) rfl rfl ?_ | refine jy (ypick0 rfl rfl) rfl rfl ?_) | (show J _ _ _ _ _ _ (⟨_, .unOp _ _ _, _, _, _, _⟩ :: _) _ _; refine jy (ynot rfl rfl) rfl rfl ?_) | (show J _ _ _ _ _ _ (⟨_, .index _ _ _, _, _, _, _⟩ :: _) _ _; refine jy (yidx (c := bt _ _) rfl rfl und9 (by omega) (by omega) rfl) rfl rfl ?_) | (show J _ _ _ _ _ _ (⟨_, .slice _ _ _ _ _, _, _, _, _⟩ :: _) _ _; refine jy (yslice rfl rfl rfl und9 (by omega) (by omega) (by omega) rfl) rfl rfl ?_) | (show J _ _ _ _ _ _ (⟨_, .call _, _, _, _, _⟩ :: _) _ _; first | refine jy (ylenl rfl und85) rfl rfl ?_) | (show J _ _ _ _ _ _ (⟨_, .extract _ _, _, _, _, _⟩ :: _) _ _; refine jy (yextractL rfl rfl) rfl rfl ?_)  | (show J _ _ _ _ _ _ (⟨_, .build _ _, _, _, _, _⟩ :: _) _ _; refine jy (ybuild rfl (by first | exact bu0 | exact bu3 _)) rfl rfl ?_)))
  refine fin (f' := [(0, .slice A l.length c), (1, .string k), (5, .int .i64 (0 : Nat))]) (m' := [])
    (cloop (ι := Nat) (fun j => [(0, .slice A l.length c), (1, .string k), (5, .int .i64 (j : Nat))]) (fun _ => []) (fun n j => j ≤ l.length ∧ n = l.length - j ∧ j ≤ oat k l) l.length 0 ⟨Nat.zero_le _, rfl, Nat.zero_le _⟩ ?_) ⟨rfl, rfl, rfl, trivial⟩ rfl
  rintro n j ⟨hj, rfl, hpre⟩ K hK
  by_cases hlt : j < l.length
  · obtain ⟨x, hx⟩ : ∃ x, l[j]? = some x := ⟨_, List.getElem?_eq_getElem hlt⟩
    obtain ⟨ad, rfl, _, hc0⟩ := hel (j * 2) (.string x.1) (pcs_get hx).1
    obtain ⟨hs1, hs2⟩ := oat_step (k := k) hx hpre
    have hc : ∀ (i : Nat) v, [Value.string x.1][i]? = some v → w.cell? ((ad.add (j * 2)).add i) = some v := by
      intro i v hv
      match i, hv with
      | 0, hv => cases hv; rw [add_zero]; exact hc0
    by_cases he : x.1 = k
    · have hd : decide (x.1 = k) = true := decide_eq_true he
      repeat' (first | (rw [hd]) | first | (show PJ _ (Code.wp _ _ _) _ _; first | refine cseq ?_ | refine rtext ?_ | refine ctrue rfl ?_ | refine cfalse rfl ?_ | refine cskip ?_ | refine cblk ?_ | refine cret ?_ | refine cexit ?_ | refine csplit' rfl (fun hq => ?_) (fun hq => ?_)  | refine rquiet mixed (by kernel_rfl) ?_) | (show PJ _ (Exit.then _ _ _) _ _; first | refine tnorm ?_ | refine tret ?_ | refine texit ?_) | (show PJ _ (Exit.inBlock _ _ _) _ _; first | refine bnorm ?_ | refine bret ?_ | refine bexit ?_ | refine bother rfl ?_) | (show PJ _ (wpList _ _ _ _) _ _; refine jlist ?_) | (show J _ _ _ _ _ _ [] _ _; refine jnil ?_) | (show J _ _ _ _ _ _ (_ :: _) _ _; first  | refine js rfl rfl ?_ | (show J _ _ _ _ _ _ (⟨_, .move _, _, _, _, _⟩ :: _) _ _; refine jy (ymove rfl) rfl rfl ?_) | (show J _ _ _ _ _ _ (⟨_, .nilCheck _, _, _, _, _⟩ :: _) _ _; refine jy (ynil rfl) rfl rfl ?_) | (show J _ _ _ _ _ _ (⟨_, .fieldAddr _ _ _, _, _, _, _⟩ :: _) _ _; refine jy (yfield rfl (by first | fail) rfl) rfl rfl ?_) | (show J _ _ _ _ _ _ (⟨_, .load _ _, _, _, _, _⟩ :: _) _ _; first | refine jy (yload (i := 0) rfl rfl rfl (by first | exact one3 | exact one9 | exact one28 | exact one48)) rfl rfl ?_ | refine jy (yload (i := 1) rfl rfl rfl (by first | exact one3 | exact one9 | exact one28 | exact one48)) rfl rfl ?_ | refine jy (yloads (i := 0) rfl rfl (by first | exact ag50)) rfl rfl ?_ | refine jy (yloadw (p := (ad.add (j * 2)).add 0) rfl (hc 0 _ rfl) (fun h => h) one9) rfl rfl ?_) | (show J _ _ _ _ _ _ (⟨_, .assign _, _, _, _, _⟩ :: _) _ _; refine jy (yassign rfl) rfl rfl ?_) | (show J _ _ _ _ _ _ (⟨_, .binOp _ _ _ _ _, _, _, _, _⟩ :: _) _ _; first | refine jy (yadd (c := ((j + 1 : Nat) : Int)) rfl rfl (by rw [i64_in (by omega) (by omega)]; omega)) rfl rfl ?_ | (show J _ _ _ _ _ _ (⟨_, .binOp .eql 9 _ _ _, _, _, _, _⟩ :: _) _ _; refine jy (yseql rfl rfl rfl) rfl rfl ?_) | refine jy (yadd rfl rfl (i64_in (by omega) (by omega))) rfl rfl ?_ | refine jy (ylss rfl rfl (by first | exact decide_eq_true (by omega) | exact decide_eq_false (by omega))) rfl rfl ?_ | refine jlss rfl rfl rfl rfl (fun hq => ?_) (fun hq => ?_) | refine jy (yeql rfl rfl (by first | exact decide_eq_true (by omega) | exact decide_eq_false (by omega))) rfl rfl ?_ | refine jeql rfl rfl rfl rfl (fun hq => ?_) (fun hq => ?_) | refine jy (ygeq rfl rfl (by first | exact decide_eq_true (by omega) | exact decide_eq_false (by omega))) rfl rfl ?_ | refine jgeq rfl rfl rfl rfl (fun hq => ?_) (fun hq => ?_)) | (show J _ _ _ _ _ _ (⟨_, .store _ _ _, _, _, _, _⟩ :: _) _ _; first | refine jstore (i := 0) rfl rfl rfl rfl rfl (by first | exact si28 | exact si3 | exact si4 | exact si48) (by first | exact hS | exact .inr hT) ?_ | refine jstore (i := 1) rfl rfl rfl rfl rfl (by first | exact si28 | exact si3 | exact si4 | exact si48) (by first | exact hS | exact .inr hT) ?_ | refine jstores (i := 0) rfl rfl rfl rfl rfl (by first | exact si28 | exact si3 | exact si4 | exact si48) (.inr hT) ?_ ) | (show J _ _ _ _ _ _ (⟨_, .pick _ _ _, _, _, _, _⟩ :: _) _ _; first | refine jy (ypick1 rfl rfl) rfl rfl ?_ | refine jy (ypick0 rfl rfl) rfl rfl ?_) | (show J _ _ _ _ _ _ (⟨_, .unOp _ _ _, _, _, _, _⟩ :: _) _ _; refine jy (ynot rfl rfl) rfl rfl ?_) | (show J _ _ _ _ _ _ (⟨_, .index _ _ _, _, _, _, _⟩ :: _) _ _; refine jy (yidx (c := bt _ _) rfl rfl und9 (by omega) (by omega) rfl) rfl rfl ?_) | (show J _ _ _ _ _ _ (⟨_, .slice _ _ _ _ _, _, _, _, _⟩ :: _) _ _; refine jy (yslice rfl rfl rfl und9 (by omega) (by omega) (by omega) rfl) rfl rfl ?_) | (show J _ _ _ _ _ _ (⟨_, .call _, _, _, _, _⟩ :: _) _ _; first | refine jy (ylenl rfl und85) rfl rfl ?_) | (show J _ _ _ _ _ _ (⟨_, .extract _ _, _, _, _, _⟩ :: _) _ _; refine jy (yextractL rfl rfl) rfl rfl ?_) | (show J _ _ _ _ _ _ (⟨_, .indexAddr 85 _ _, _, _, _, _⟩ :: _) _ _; refine jy (yat (p' := ad.add (j * 2)) rfl rfl und85 sz89 (by omega) (by omega) (congrArg _ (by omega))) rfl rfl ?_) | (show J _ _ _ _ _ _ (⟨_, .fieldAddr 89 _ 0, _, _, _, _⟩ :: _) _ _; refine jy (yfieldA (p := ad.add (j * 2)) (p' := (ad.add (j * 2)).add 0) rfl fb89_0 rfl) rfl rfl ?_) | (show J _ _ _ _ _ _ (⟨_, .build _ _, _, _, _, _⟩ :: _) _ _; refine jy (ybuild rfl (by first | exact bu0 | exact bu3 _)) rfl rfl ?_)))
      all_goals first | exact post _ _ (by unfold oati; rw [hs1 he, if_pos hlt]; rfl) | exact absurd hd hq
    · have hd : decide (x.1 = k) = false := decide_eq_false he
      repeat' (first | (rw [hd]) | first | (show PJ _ (Code.wp _ _ _) _ _; first | refine cseq ?_ | refine rtext ?_ | refine ctrue rfl ?_ | refine cfalse rfl ?_ | refine cskip ?_ | refine cblk ?_ | refine cret ?_ | refine cexit ?_ | refine csplit' rfl (fun hq => ?_) (fun hq => ?_)  | refine rquiet mixed (by kernel_rfl) ?_) | (show PJ _ (Exit.then _ _ _) _ _; first | refine tnorm ?_ | refine tret ?_ | refine texit ?_) | (show PJ _ (Exit.inBlock _ _ _) _ _; first | refine bnorm ?_ | refine bret ?_ | refine bexit ?_ | refine bother rfl ?_) | (show PJ _ (wpList _ _ _ _) _ _; refine jlist ?_) | (show J _ _ _ _ _ _ [] _ _; refine jnil ?_) | (show J _ _ _ _ _ _ (_ :: _) _ _; first  | refine js rfl rfl ?_ | (show J _ _ _ _ _ _ (⟨_, .move _, _, _, _, _⟩ :: _) _ _; refine jy (ymove rfl) rfl rfl ?_) | (show J _ _ _ _ _ _ (⟨_, .nilCheck _, _, _, _, _⟩ :: _) _ _; refine jy (ynil rfl) rfl rfl ?_) | (show J _ _ _ _ _ _ (⟨_, .fieldAddr _ _ _, _, _, _, _⟩ :: _) _ _; refine jy (yfield rfl (by first | fail) rfl) rfl rfl ?_) | (show J _ _ _ _ _ _ (⟨_, .load _ _, _, _, _, _⟩ :: _) _ _; first | refine jy (yload (i := 0) rfl rfl rfl (by first | exact one3 | exact one9 | exact one28 | exact one48)) rfl rfl ?_ | refine jy (yload (i := 1) rfl rfl rfl (by first | exact one3 | exact one9 | exact one28 | exact one48)) rfl rfl ?_ | refine jy (yloads (i := 0) rfl rfl (by first | exact ag50)) rfl rfl ?_ | refine jy (yloadw (p := (ad.add (j * 2)).add 0) rfl (hc 0 _ rfl) (fun h => h) one9) rfl rfl ?_) | (show J _ _ _ _ _ _ (⟨_, .assign _, _, _, _, _⟩ :: _) _ _; refine jy (yassign rfl) rfl rfl ?_) | (show J _ _ _ _ _ _ (⟨_, .binOp _ _ _ _ _, _, _, _, _⟩ :: _) _ _; first | refine jy (yadd (c := ((j + 1 : Nat) : Int)) rfl rfl (by rw [i64_in (by omega) (by omega)]; omega)) rfl rfl ?_ | (show J _ _ _ _ _ _ (⟨_, .binOp .eql 9 _ _ _, _, _, _, _⟩ :: _) _ _; refine jy (yseql rfl rfl rfl) rfl rfl ?_) | refine jy (yadd rfl rfl (i64_in (by omega) (by omega))) rfl rfl ?_ | refine jy (ylss rfl rfl (by first | exact decide_eq_true (by omega) | exact decide_eq_false (by omega))) rfl rfl ?_ | refine jlss rfl rfl rfl rfl (fun hq => ?_) (fun hq => ?_) | refine jy (yeql rfl rfl (by first | exact decide_eq_true (by omega) | exact decide_eq_false (by omega))) rfl rfl ?_ | refine jeql rfl rfl rfl rfl (fun hq => ?_) (fun hq => ?_) | refine jy (ygeq rfl rfl (by first | exact decide_eq_true (by omega) | exact decide_eq_false (by omega))) rfl rfl ?_ | refine jgeq rfl rfl rfl rfl (fun hq => ?_) (fun hq => ?_)) | (show J _ _ _ _ _ _ (⟨_, .store _ _ _, _, _, _, _⟩ :: _) _ _; first | refine jstore (i := 0) rfl rfl rfl rfl rfl (by first | exact si28 | exact si3 | exact si4 | exact si48) (by first | exact hS | exact .inr hT) ?_ | refine jstore (i := 1) rfl rfl rfl rfl rfl (by first | exact si28 | exact si3 | exact si4 | exact si48) (by first | exact hS | exact .inr hT) ?_ | refine jstores (i := 0) rfl rfl rfl rfl rfl (by first | exact si28 | exact si3 | exact si4 | exact si48) (.inr hT) ?_ ) | (show J _ _ _ _ _ _ (⟨_, .pick _ _ _, _, _, _, _⟩ :: _) _ _; first | refine jy (ypick1 rfl rfl) rfl rfl ?_ | refine jy (ypick0 rfl rfl) rfl rfl ?_) | (show J _ _ _ _ _ _ (⟨_, .unOp _ _ _, _, _, _, _⟩ :: _) _ _; refine jy (ynot rfl rfl) rfl rfl ?_) | (show J _ _ _ _ _ _ (⟨_, .index _ _ _, _, _, _, _⟩ :: _) _ _; refine jy (yidx (c := bt _ _) rfl rfl und9 (by omega) (by omega) rfl) rfl rfl ?_) | (show J _ _ _ _ _ _ (⟨_, .slice _ _ _ _ _, _, _, _, _⟩ :: _) _ _; refine jy (yslice rfl rfl rfl und9 (by omega) (by omega) (by omega) rfl) rfl rfl ?_) | (show J _ _ _ _ _ _ (⟨_, .call _, _, _, _, _⟩ :: _) _ _; first | refine jy (ylenl rfl und85) rfl rfl ?_) | (show J _ _ _ _ _ _ (⟨_, .extract _ _, _, _, _, _⟩ :: _) _ _; refine jy (yextractL rfl rfl) rfl rfl ?_) | (show J _ _ _ _ _ _ (⟨_, .indexAddr 85 _ _, _, _, _, _⟩ :: _) _ _; refine jy (yat (p' := ad.add (j * 2)) rfl rfl und85 sz89 (by omega) (by omega) (congrArg _ (by omega))) rfl rfl ?_) | (show J _ _ _ _ _ _ (⟨_, .fieldAddr 89 _ 0, _, _, _, _⟩ :: _) _ _; refine jy (yfieldA (p := ad.add (j * 2)) (p' := (ad.add (j * 2)).add 0) rfl fb89_0 rfl) rfl rfl ?_) | (show J _ _ _ _ _ _ (⟨_, .build _ _, _, _, _, _⟩ :: _) _ _; refine jy (ybuild rfl (by first | exact bu0 | exact bu3 _)) rfl rfl ?_)))
      exact fin (hK (l.length - (j + 1)) (j + 1) (by omega) ⟨by omega, rfl, hs2 he⟩) ⟨rfl, rfl, rfl, trivial⟩ rfl
  · obtain rfl : j = l.length := by omega
    repeat' (first | (show PJ _ (Code.wp _ _ _) _ _; first | refine cseq ?_ | refine rtext ?_ | refine ctrue rfl ?_ | refine cfalse rfl ?_ | refine cskip ?_ | refine cblk ?_ | refine cret ?_ | refine cexit ?_ | refine csplit' rfl (fun hq => ?_) (fun hq => ?_)  | refine rquiet mixed (by kernel_rfl) ?_) | (show PJ _ (Exit.then _ _ _) _ _; first | refine tnorm ?_ | refine tret ?_ | refine texit ?_) | (show PJ _ (Exit.inBlock _ _ _) _ _; first | refine bnorm ?_ | refine bret ?_ | refine bexit ?_ | refine bother rfl ?_) | (show PJ _ (wpList _ _ _ _) _ _; refine jlist ?_) | (show J _ _ _ _ _ _ [] _ _; refine jnil ?_) | (show J _ _ _ _ _ _ (_ :: _) _ _; first  | refine js rfl rfl ?_ | (show J _ _ _ _ _ _ (⟨_, .move _, _, _, _, _⟩ :: _) _ _; refine jy (ymove rfl) rfl rfl ?_) | (show J _ _ _ _ _ _ (⟨_, .nilCheck _, _, _, _, _⟩ :: _) _ _; refine jy (ynil rfl) rfl rfl ?_) | (show J _ _ _ _ _ _ (⟨_, .fieldAddr _ _ _, _, _, _, _⟩ :: _) _ _; refine jy (yfield rfl (by first | fail) rfl) rfl rfl ?_) | (show J _ _ _ _ _ _ (⟨_, .load _ _, _, _, _, _⟩ :: _) _ _; first | refine jy (yload (i := 0) rfl rfl rfl (by first | exact one3 | exact one9 | exact one28 | exact one48)) rfl rfl ?_ | refine jy (yload (i := 1) rfl rfl rfl (by first | exact one3 | exact one9 | exact one28 | exact one48)) rfl rfl ?_ | refine jy (yloads (i := 0) rfl rfl (by first | exact ag50)) rfl rfl ?_ ) | (show J _ _ _ _ _ _ (⟨_, .assign _, _, _, _, _⟩ :: _) _ _; refine jy (yassign rfl) rfl rfl ?_) | (show J _ _ _ _ _ _ (⟨_, .binOp _ _ _ _ _, _, _, _, _⟩ :: _) _ _; first | refine jy (yadd (c := ((j + 1 : Nat) : Int)) rfl rfl (by rw [i64_in (by omega) (by omega)]; omega)) rfl rfl ?_ | (show J _ _ _ _ _ _ (⟨_, .binOp .eql 9 _ _ _, _, _, _, _⟩ :: _) _ _; refine jy (yseql rfl rfl rfl) rfl rfl ?_) | refine jy (yadd rfl rfl (i64_in (by omega) (by omega))) rfl rfl ?_ | refine jy (ylss rfl rfl (by first | exact decide_eq_true (by omega) | exact decide_eq_false (by omega))) rfl rfl ?_ | refine jlss rfl rfl rfl rfl (fun hq => ?_) (fun hq => ?_) | refine jy (yeql rfl rfl (by first | exact decide_eq_true (by omega) | exact decide_eq_false (by omega))) rfl rfl ?_ | refine jeql rfl rfl rfl rfl (fun hq => ?_) (fun hq => ?_) | refine jy (ygeq rfl rfl (by first | exact decide_eq_true (by omega) | exact decide_eq_false (by omega))) rfl rfl ?_ | refine jgeq rfl rfl rfl rfl (fun hq => ?_) (fun hq => ?_)) | (show J _ _ _ _ _ _ (⟨_, .store _ _ _, _, _, _, _⟩ :: _) _ _; first | refine jstore (i := 0) rfl rfl rfl rfl rfl (by first | exact si28 | exact si3 | exact si4 | exact si48) (by first | exact hS | exact .inr hT) ?_ | refine jstore (i := 1) rfl rfl rfl rfl rfl (by first | exact si28 | exact si3 | exact si4 | exact si48) (by first | exact hS | exact .inr hT) ?_ | refine jstores (i := 0) rfl rfl rfl rfl rfl (by first | exact si28 | exact si3 | exact si4 | exact si48) (.inr hT) ?_ ) | (show J _ _ _ _ _ _ (⟨_, .pick _ _ _, _, _, _, _⟩ :: _) _ _; first | refine jy (ypick1 rfl rfl) rfl rfl ?_ | refine jy (ypick0 rfl rfl) rfl rfl ?_) | (show J _ _ _ _ _ _ (⟨_, .unOp _ _ _, _, _, _, _⟩ :: _) _ _; refine jy (ynot rfl rfl) rfl rfl ?_) | (show J _ _ _ _ _ _ (⟨_, .index _ _ _, _, _, _, _⟩ :: _) _ _; refine jy (yidx (c := bt _ _) rfl rfl und9 (by omega) (by omega) rfl) rfl rfl ?_) | (show J _ _ _ _ _ _ (⟨_, .slice _ _ _ _ _, _, _, _, _⟩ :: _) _ _; refine jy (yslice rfl rfl rfl und9 (by omega) (by omega) (by omega) rfl) rfl rfl ?_) | (show J _ _ _ _ _ _ (⟨_, .call _, _, _, _, _⟩ :: _) _ _; first | refine jy (ylenl rfl und85) rfl rfl ?_) | (show J _ _ _ _ _ _ (⟨_, .extract _ _, _, _, _, _⟩ :: _) _ _; refine jy (yextractL rfl rfl) rfl rfl ?_)  | (show J _ _ _ _ _ _ (⟨_, .build _ _, _, _, _, _⟩ :: _) _ _; refine jy (ybuild rfl (by first | exact bu0 | exact bu3 _)) rfl rfl ?_)))
    exact post _ _ (by unfold oati; rw [if_neg (by omega)]; rfl)
/-! ### ordSet -/
set_option maxHeartbeats 1000000 in
set_option maxRecDepth 100000 in
theorem oset_calls2 {X : Cx} {r : Row} {l : OL} {E : Mem} (k : ByteArray) (v : Int) (hr : r.ok 0 2 l.length (pcs l)) (hl : l.length ≤ 1000000) : ∀ w, Cl X (r.mem (pcs l) 89 ++ E) w →
    Calls Try.prog 60 #[r.val l.length, .string k, .int .i64 v] w fun e w' => ∃ r' : Row, e = .returned (r'.val (oset k v l).length) ∧ Cl X (r'.mem (pcs (oset k v l)) 89 ++ (r.mem (pcs l) 89 ++ E)) w' ∧ r'.ok 0 2 (oset k v l).length (pcs (oset k v l)) ∧ r'.may X := by
  intro w hw
  refine enterC 28 hw Try.func60 rfl rfl (vs := [r.val l.length, .string k, .int .i64 v]) rfl ?_
  conv => arg 2; arg 2; whnf
  obtain ⟨A, c, hA, hsrc⟩ : ∃ A c, r.val l.length = .slice A l.length c ∧ ∀ m, (∀ x ∈ r.mem (pcs l) 89, x ∈ m) → Src (X.sub 28 w) m A (pcs l) := by
    obtain ⟨A, c, hA⟩ := row_slice hr
    exact ⟨A, c, hA, fun m hm => src_at hA hr hm⟩
  have hoi : oati k l = if oat k l < l.length then (oat k l : Int) else -1 := rfl
  have hole := oat_le k l
  generalize hI : oati k l = I at hoi
  by_cases hlt : oat k l < l.length
  · rw [if_pos hlt] at hoi
    subst hoi
    obtain ⟨u, hu, _⟩ := oat_get hlt
    repeat' ((fail_if_success (show PJ _ (Code.wp _ (Code.seq (Code.region 4 _ _) _) _) _ _)); first | (rw [hI]) | first | (show PJ _ (Code.wp _ _ _) _ _; first | refine cseq ?_ | refine rtext ?_ | refine ctrue rfl ?_ | refine cfalse rfl ?_ | refine cskip ?_ | refine cblk ?_ | refine cret ?_ | refine cexit ?_ | refine csplit' rfl (fun hq => ?_) (fun hq => ?_)  | refine rquiet mixed (by kernel_rfl) ?_) | (show PJ _ (Exit.then _ _ _) _ _; first | refine tnorm ?_ | refine tret ?_ | refine texit ?_) | (show PJ _ (Exit.inBlock _ _ _) _ _; first | refine bnorm ?_ | refine bret ?_ | refine bexit ?_ | refine bother rfl ?_) | (show PJ _ (wpList _ _ _ _) _ _; refine jlist ?_) | (show J _ _ _ _ _ _ [] _ _; refine jnil ?_) | (show J _ _ _ _ _ _ (_ :: _) _ _; first  | refine js rfl rfl ?_ | (show J _ _ _ _ _ _ (⟨_, .move _, _, _, _, _⟩ :: _) _ _; refine jy (ymove rfl) rfl rfl ?_) | (show J _ _ _ _ _ _ (⟨_, .nilCheck _, _, _, _, _⟩ :: _) _ _; refine jy (ynil rfl) rfl rfl ?_) | (show J _ _ _ _ _ _ (⟨_, .fieldAddr _ _ _, _, _, _, _⟩ :: _) _ _; refine jy (yfield rfl (by first | exact fb89_1) rfl) rfl rfl ?_) | (show J _ _ _ _ _ _ (⟨_, .load _ _, _, _, _, _⟩ :: _) _ _; first | refine jy (yload (i := 0) rfl rfl rfl (by first | exact one3 | exact one9 | exact one28 | exact one48)) rfl rfl ?_ | refine jy (yload (i := 1) rfl rfl rfl (by first | exact one3 | exact one9 | exact one28 | exact one48)) rfl rfl ?_ | refine jy (yloads (i := 0) rfl rfl (by first | exact ag50)) rfl rfl ?_ ) | (show J _ _ _ _ _ _ (⟨_, .assign _, _, _, _, _⟩ :: _) _ _; refine jy (yassign rfl) rfl rfl ?_) | (show J _ _ _ _ _ _ (⟨_, .binOp _ _ _ _ _, _, _, _, _⟩ :: _) _ _; first  | refine jy (yadd rfl rfl (i64_in (by omega) (by omega))) rfl rfl ?_ | refine jy (ylss rfl rfl (by first | exact decide_eq_true (by omega) | exact decide_eq_false (by omega))) rfl rfl ?_ | refine jlss rfl rfl rfl rfl (fun hq => ?_) (fun hq => ?_) | refine jy (yeql rfl rfl (by first | exact decide_eq_true (by omega) | exact decide_eq_false (by omega))) rfl rfl ?_ | refine jeql rfl rfl rfl rfl (fun hq => ?_) (fun hq => ?_) | refine jy (ygeq rfl rfl (by first | exact decide_eq_true (by omega) | exact decide_eq_false (by omega))) rfl rfl ?_ | refine jgeq rfl rfl rfl rfl (fun hq => ?_) (fun hq => ?_)) | (show J _ _ _ _ _ _ (⟨_, .store _ _ _, _, _, _, _⟩ :: _) _ _; first | refine jstore (i := 0) rfl rfl rfl rfl rfl (by first | exact si28 | exact si3 | exact si4 | exact si48) (by first | exact hS | exact .inr hT) ?_ | refine jstore (i := 1) rfl rfl rfl rfl rfl (by first | exact si28 | exact si3 | exact si4 | exact si48) (by first | exact hS | exact .inr hT) ?_ | refine jstores (i := 0) rfl rfl rfl rfl rfl (by first | exact si28 | exact si3 | exact si4 | exact si48) (.inr hT) ?_ ) | (show J _ _ _ _ _ _ (⟨_, .pick _ _ _, _, _, _, _⟩ :: _) _ _; first | refine jy (ypick1 rfl rfl) rfl rfl ?_ | refine jy (ypick0 rfl rfl) rfl rfl ?_) | (show J _ _ _ _ _ _ (⟨_, .unOp _ _ _, _, _, _, _⟩ :: _) _ _; refine jy (ynot rfl rfl) rfl rfl ?_) | (show J _ _ _ _ _ _ (⟨_, .index _ _ _, _, _, _, _⟩ :: _) _ _; refine jy (yidx (c := bt _ _) rfl rfl und9 (by omega) (by omega) rfl) rfl rfl ?_) | (show J _ _ _ _ _ _ (⟨_, .slice _ _ _ _ _, _, _, _, _⟩ :: _) _ _; refine jy (yslice rfl rfl rfl und9 (by omega) (by omega) (by omega) rfl) rfl rfl ?_) | (show J _ _ _ _ _ _ (⟨_, .call _, _, _, _, _⟩ :: _) _ _; first | (show J _ _ _ _ _ _ (⟨_, .call ⟨.builtin .append, #[.const _, _], _⟩, _, _, _, _⟩ :: _) _ _; refine jappendNilN (A := A) (c := c) (xs := pcs l) (fun r1 => r1.mem (pcs l) 89 ++ (r.mem (pcs l) 89 ++ E)) (fun r1 => List.perm_append_comm) (congrArg some hA) (hsrc _ (fun x hx => List.mem_append_left _ hx)) (pcs_len l) (pcs_one l) gr85 (by omega) (by simp only [maxLen]; omega) (by omega) rfl (fun r1 hr1 hm1 => ?_)) | (show J _ _ _ _ _ _ (⟨_, .call ⟨.value (.func 59), _, _⟩, _, _, _, _⟩ :: _) _ _; refine jcallq bo59 rfl rfl rfl (quietC (fun w' hw' => oat_calls k (RowAt.of (S := nof) (e := 89) hw'.1 (fun x hx => List.mem_append_left _ hx) hr1 (fun b _ h => h)) (by omega))) ?_) | (show J _ _ _ _ _ _ (⟨_, .call ⟨.builtin .append, #[.tmp _, .tmp _], _⟩, _, _, _, _⟩ :: _) _ _; refine jappendP (k := 1) (r := r1) (xs := pcs l) (news := pcs [(k, v)]) ([_] ++ (r.mem (pcs l) 89 ++ E)) (fun r2 => [_] ++ (r2.mem (pcs l ++ pcs [(k, v)]) 89 ++ (r.mem (pcs l) 89 ++ E))) (perm_row [_] _ _) (fun r2 => (perm_row [_] _ _).symm) rfl rfl (src_blk (i := 0) 0 rfl (add_zero _) (fun j u hj => by rw [show 0 + j = j from Nat.zero_add j]; exact hj)) rfl (pcs_one _) hr1 (Nat.zero_le _) hm1 gr85 (by omega) (by simp only [maxLen]; omega) (by omega) rfl (fun r2 hr2 hm2 => ?_))) | (show J _ _ _ _ _ _ (⟨_, .extract _ _, _, _, _, _⟩ :: _) _ _; refine jy (yextractL rfl rfl) rfl rfl ?_)  | (show J _ _ _ _ _ _ (⟨_, .build _ _, _, _, _, _⟩ :: _) _ _; refine jy (ybuild rfl (by first | exact bu0 | exact bu3 _)) rfl rfl ?_)))
    obtain ⟨g, cap, rr, rfl, hcap, _, _⟩ := row_at hr1 (by omega)
    have hnt : nth (pcs l ++ rr) (oat k l * 2 + 1) = some (.int .i64 u) := by
      have := (pcs_get hu).2
      rw [nth_eq, List.getElem?_append_left (List.getElem?_eq_some_iff.1 this).1]
      exact this
    repeat' (first | (show PJ _ (Code.wp _ _ _) _ _; first | refine cseq ?_ | refine rtext ?_ | refine ctrue rfl ?_ | refine cfalse rfl ?_ | refine cskip ?_ | refine cblk ?_ | refine cret ?_ | refine cexit ?_ | refine csplit' rfl (fun hq => ?_) (fun hq => ?_)  | refine rquiet mixed (by kernel_rfl) ?_) | (show PJ _ (Exit.then _ _ _) _ _; first | refine tnorm ?_ | refine tret ?_ | refine texit ?_) | (show PJ _ (Exit.inBlock _ _ _) _ _; first | refine bnorm ?_ | refine bret ?_ | refine bexit ?_ | refine bother rfl ?_) | (show PJ _ (wpList _ _ _ _) _ _; refine jlist ?_) | (show J _ _ _ _ _ _ [] _ _; refine jnil ?_) | (show J _ _ _ _ _ _ (_ :: _) _ _; first  | refine js rfl rfl ?_ | (show J _ _ _ _ _ _ (⟨_, .move _, _, _, _, _⟩ :: _) _ _; refine jy (ymove rfl) rfl rfl ?_) | (show J _ _ _ _ _ _ (⟨_, .nilCheck _, _, _, _, _⟩ :: _) _ _; refine jy (ynil rfl) rfl rfl ?_) | (show J _ _ _ _ _ _ (⟨_, .fieldAddr _ _ _, _, _, _, _⟩ :: _) _ _; refine jy (yfield rfl (by first | exact fb89_1) rfl) rfl rfl ?_) | (show J _ _ _ _ _ _ (⟨_, .load _ _, _, _, _, _⟩ :: _) _ _; first | refine jy (yload (i := 0) rfl rfl rfl (by first | exact one3 | exact one9 | exact one28 | exact one48)) rfl rfl ?_ | refine jy (yload (i := 1) rfl rfl rfl (by first | exact one3 | exact one9 | exact one28 | exact one48)) rfl rfl ?_ | refine jy (yloads (i := 0) rfl rfl (by first | exact ag50)) rfl rfl ?_ ) | (show J _ _ _ _ _ _ (⟨_, .assign _, _, _, _, _⟩ :: _) _ _; refine jy (yassign rfl) rfl rfl ?_) | (show J _ _ _ _ _ _ (⟨_, .binOp _ _ _ _ _, _, _, _, _⟩ :: _) _ _; first  | refine jy (yadd rfl rfl (i64_in (by omega) (by omega))) rfl rfl ?_ | refine jy (ylss rfl rfl (by first | exact decide_eq_true (by omega) | exact decide_eq_false (by omega))) rfl rfl ?_ | refine jlss rfl rfl rfl rfl (fun hq => ?_) (fun hq => ?_) | refine jy (yeql rfl rfl (by first | exact decide_eq_true (by omega) | exact decide_eq_false (by omega))) rfl rfl ?_ | refine jeql rfl rfl rfl rfl (fun hq => ?_) (fun hq => ?_) | refine jy (ygeq rfl rfl (by first | exact decide_eq_true (by omega) | exact decide_eq_false (by omega))) rfl rfl ?_ | refine jgeq rfl rfl rfl rfl (fun hq => ?_) (fun hq => ?_)) | (show J _ _ _ _ _ _ (⟨_, .store _ _ _, _, _, _, _⟩ :: _) _ _; first | refine jstore (i := 0) rfl rfl rfl rfl rfl (by first | exact si28 | exact si3 | exact si4 | exact si48) (by first | exact hS | exact .inr hT) ?_ | refine jstore (i := 1) rfl rfl rfl rfl rfl (by first | exact si28 | exact si3 | exact si4 | exact si48) (by first | exact hS | exact .inr hT) ?_ | refine jstores (i := 0) rfl rfl rfl rfl rfl (by first | exact si28 | exact si3 | exact si4 | exact si48) (.inr hT) ?_ | refine jstore (i := 0) rfl rfl rfl hnt rfl si3 hm1 ?_) | (show J _ _ _ _ _ _ (⟨_, .pick _ _ _, _, _, _, _⟩ :: _) _ _; first | refine jy (ypick1 rfl rfl) rfl rfl ?_ | refine jy (ypick0 rfl rfl) rfl rfl ?_) | (show J _ _ _ _ _ _ (⟨_, .unOp _ _ _, _, _, _, _⟩ :: _) _ _; refine jy (ynot rfl rfl) rfl rfl ?_) | (show J _ _ _ _ _ _ (⟨_, .index _ _ _, _, _, _, _⟩ :: _) _ _; refine jy (yidx (c := bt _ _) rfl rfl und9 (by omega) (by omega) rfl) rfl rfl ?_) | (show J _ _ _ _ _ _ (⟨_, .slice _ _ _ _ _, _, _, _, _⟩ :: _) _ _; refine jy (yslice rfl rfl rfl und9 (by omega) (by omega) (by omega) rfl) rfl rfl ?_) | (show J _ _ _ _ _ _ (⟨_, .call _, _, _, _, _⟩ :: _) _ _; first | (show J _ _ _ _ _ _ (⟨_, .call ⟨.builtin .append, #[.const _, _], _⟩, _, _, _, _⟩ :: _) _ _; refine jappendNilN (A := A) (c := c) (xs := pcs l) (fun r1 => r1.mem (pcs l) 89 ++ (r.mem (pcs l) 89 ++ E)) (fun r1 => List.perm_append_comm) (congrArg some hA) (hsrc _ (fun x hx => List.mem_append_left _ hx)) (pcs_len l) (pcs_one l) gr85 (by omega) (by simp only [maxLen]; omega) (by omega) rfl (fun r1 hr1 hm1 => ?_)) | (show J _ _ _ _ _ _ (⟨_, .call ⟨.value (.func 59), _, _⟩, _, _, _, _⟩ :: _) _ _; refine jcallq bo59 rfl rfl rfl (quietC (fun w' hw' => oat_calls k (RowAt.of (S := nof) (e := 89) hw'.1 (fun x hx => List.mem_append_left _ hx) hr1 (fun b _ h => h)) (by omega))) ?_) | (show J _ _ _ _ _ _ (⟨_, .call ⟨.builtin .append, #[.tmp _, .tmp _], _⟩, _, _, _, _⟩ :: _) _ _; refine jappendP (k := 1) (r := r1) (xs := pcs l) (news := pcs [(k, v)]) ([_] ++ (r.mem (pcs l) 89 ++ E)) (fun r2 => [_] ++ (r2.mem (pcs l ++ pcs [(k, v)]) 89 ++ (r.mem (pcs l) 89 ++ E))) (perm_row [_] _ _) (fun r2 => (perm_row [_] _ _).symm) rfl rfl (src_blk (i := 0) 0 rfl (add_zero _) (fun j u hj => by rw [show 0 + j = j from Nat.zero_add j]; exact hj)) rfl (pcs_one _) hr1 (Nat.zero_le _) hm1 gr85 (by omega) (by simp only [maxLen]; omega) (by omega) rfl (fun r2 hr2 hm2 => ?_))) | (show J _ _ _ _ _ _ (⟨_, .extract _ _, _, _, _, _⟩ :: _) _ _; refine jy (yextractL rfl rfl) rfl rfl ?_) | (show J _ _ _ _ _ _ (⟨_, .indexAddr 85 _ _, _, _, _, _⟩ :: _) _ _; refine jy (yat (p' := ⟨g, oat k l * 2, none⟩) rfl rfl und85 sz89 (by omega) (by omega) (by rw [add_lit]; rfl)) rfl rfl ?_) | (show J _ _ _ _ _ _ (⟨_, .build 89 _, _, _, _, _⟩ :: _) _ _; refine jy (ybuild rfl (bu89 _ _)) rfl rfl ?_) | (show J _ _ _ _ _ _ (⟨_, .buildSlice 85 1 _, _, _, _, _⟩ :: _) _ _; refine jlit1 (c := pcs [(k, v)]) rfl rfl rfl gr85 rfl rfl rfl (fun gl hT => ?_)) | (show J _ _ _ _ _ _ (⟨_, .build _ _, _, _, _, _⟩ :: _) _ _; refine jy (ybuild rfl (by first | exact bu0 | exact bu3 _)) rfl rfl ?_)))
    refine ret1 rfl rfl rfl (fun w' hw' => ?_)
    have e1 := oset_at (v := v) hlt
    have e2 : (oset k v l).length = l.length := by rw [e1, List.length_set]
    have e3 := setL_pcs l rr _ _ v hu
    refine ⟨.at g cap rr, by rw [e2], ?_, ?_, Row.may_up hw hm1⟩
    · have := hw.up hw'
      dsimp only [Row.mem, setM, List.cons_append, List.nil_append] at this ⊢
      rw [e3] at this
      rw [e1]
      exact this
    · obtain ⟨h1, h2, h3, h4, h5⟩ := hr1
      rw [e2]
      refine ⟨h1, by rw [pcs_len, e2], h3, h4, ?_⟩
      rw [pcs_len, e2, ← pcs_len]
      exact h5
  · rw [if_neg hlt] at hoi
    subst hoi
    have e1 := oset_new (v := v) (oat_none hlt)
    repeat' (first | (rw [hI]) | first | (show PJ _ (Code.wp _ _ _) _ _; first | refine cseq ?_ | refine rtext ?_ | refine ctrue rfl ?_ | refine cfalse rfl ?_ | refine cskip ?_ | refine cblk ?_ | refine cret ?_ | refine cexit ?_ | refine csplit' rfl (fun hq => ?_) (fun hq => ?_)  | refine rquiet mixed (by kernel_rfl) ?_) | (show PJ _ (Exit.then _ _ _) _ _; first | refine tnorm ?_ | refine tret ?_ | refine texit ?_) | (show PJ _ (Exit.inBlock _ _ _) _ _; first | refine bnorm ?_ | refine bret ?_ | refine bexit ?_ | refine bother rfl ?_) | (show PJ _ (wpList _ _ _ _) _ _; refine jlist ?_) | (show J _ _ _ _ _ _ [] _ _; refine jnil ?_) | (show J _ _ _ _ _ _ (_ :: _) _ _; first  | refine js rfl rfl ?_ | (show J _ _ _ _ _ _ (⟨_, .move _, _, _, _, _⟩ :: _) _ _; refine jy (ymove rfl) rfl rfl ?_) | (show J _ _ _ _ _ _ (⟨_, .nilCheck _, _, _, _, _⟩ :: _) _ _; refine jy (ynil rfl) rfl rfl ?_) | (show J _ _ _ _ _ _ (⟨_, .fieldAddr _ _ _, _, _, _, _⟩ :: _) _ _; refine jy (yfield rfl (by first | exact fb89_1) rfl) rfl rfl ?_) | (show J _ _ _ _ _ _ (⟨_, .load _ _, _, _, _, _⟩ :: _) _ _; first | refine jy (yload (i := 0) rfl rfl rfl (by first | exact one3 | exact one9 | exact one28 | exact one48)) rfl rfl ?_ | refine jy (yload (i := 1) rfl rfl rfl (by first | exact one3 | exact one9 | exact one28 | exact one48)) rfl rfl ?_ | refine jy (yloads (i := 0) rfl rfl (by first | exact ag50)) rfl rfl ?_ ) | (show J _ _ _ _ _ _ (⟨_, .assign _, _, _, _, _⟩ :: _) _ _; refine jy (yassign rfl) rfl rfl ?_) | (show J _ _ _ _ _ _ (⟨_, .binOp _ _ _ _ _, _, _, _, _⟩ :: _) _ _; first  | refine jy (yadd rfl rfl (i64_in (by omega) (by omega))) rfl rfl ?_ | refine jy (ylss rfl rfl (by first | exact decide_eq_true (by omega) | exact decide_eq_false (by omega))) rfl rfl ?_ | refine jlss rfl rfl rfl rfl (fun hq => ?_) (fun hq => ?_) | refine jy (yeql rfl rfl (by first | exact decide_eq_true (by omega) | exact decide_eq_false (by omega))) rfl rfl ?_ | refine jeql rfl rfl rfl rfl (fun hq => ?_) (fun hq => ?_) | refine jy (ygeq rfl rfl (by first | exact decide_eq_true (by omega) | exact decide_eq_false (by omega))) rfl rfl ?_ | refine jgeq rfl rfl rfl rfl (fun hq => ?_) (fun hq => ?_)) | (show J _ _ _ _ _ _ (⟨_, .store _ _ _, _, _, _, _⟩ :: _) _ _; first | refine jstore (i := 0) rfl rfl rfl rfl rfl (by first | exact si28 | exact si3 | exact si4 | exact si48) (by first | exact hS | exact .inr hT) ?_ | refine jstore (i := 1) rfl rfl rfl rfl rfl (by first | exact si28 | exact si3 | exact si4 | exact si48) (by first | exact hS | exact .inr hT) ?_ | refine jstores (i := 0) rfl rfl rfl rfl rfl (by first | exact si28 | exact si3 | exact si4 | exact si48) (.inr hT) ?_ ) | (show J _ _ _ _ _ _ (⟨_, .pick _ _ _, _, _, _, _⟩ :: _) _ _; first | refine jy (ypick1 rfl rfl) rfl rfl ?_ | refine jy (ypick0 rfl rfl) rfl rfl ?_) | (show J _ _ _ _ _ _ (⟨_, .unOp _ _ _, _, _, _, _⟩ :: _) _ _; refine jy (ynot rfl rfl) rfl rfl ?_) | (show J _ _ _ _ _ _ (⟨_, .index _ _ _, _, _, _, _⟩ :: _) _ _; refine jy (yidx (c := bt _ _) rfl rfl und9 (by omega) (by omega) rfl) rfl rfl ?_) | (show J _ _ _ _ _ _ (⟨_, .slice _ _ _ _ _, _, _, _, _⟩ :: _) _ _; refine jy (yslice rfl rfl rfl und9 (by omega) (by omega) (by omega) rfl) rfl rfl ?_) | (show J _ _ _ _ _ _ (⟨_, .call _, _, _, _, _⟩ :: _) _ _; first | (show J _ _ _ _ _ _ (⟨_, .call ⟨.builtin .append, #[.const _, _], _⟩, _, _, _, _⟩ :: _) _ _; refine jappendNilN (A := A) (c := c) (xs := pcs l) (fun r1 => r1.mem (pcs l) 89 ++ (r.mem (pcs l) 89 ++ E)) (fun r1 => List.perm_append_comm) (congrArg some hA) (hsrc _ (fun x hx => List.mem_append_left _ hx)) (pcs_len l) (pcs_one l) gr85 (by omega) (by simp only [maxLen]; omega) (by omega) rfl (fun r1 hr1 hm1 => ?_)) | (show J _ _ _ _ _ _ (⟨_, .call ⟨.value (.func 59), _, _⟩, _, _, _, _⟩ :: _) _ _; refine jcallq bo59 rfl rfl rfl (quietC (fun w' hw' => oat_calls k (RowAt.of (S := nof) (e := 89) hw'.1 (fun x hx => List.mem_append_left _ hx) hr1 (fun b _ h => h)) (by omega))) ?_) | (show J _ _ _ _ _ _ (⟨_, .call ⟨.builtin .append, #[.tmp _, .tmp _], _⟩, _, _, _, _⟩ :: _) _ _; refine jappendP (k := 1) (r := r1) (xs := pcs l) (news := pcs [(k, v)]) ([_] ++ (r.mem (pcs l) 89 ++ E)) (fun r2 => [_] ++ (r2.mem (pcs l ++ pcs [(k, v)]) 89 ++ (r.mem (pcs l) 89 ++ E))) (perm_row [_] _ _) (fun r2 => (perm_row [_] _ _).symm) rfl rfl (src_blk (i := 0) 0 rfl (add_zero _) (fun j u hj => by rw [show 0 + j = j from Nat.zero_add j]; exact hj)) rfl (pcs_one _) hr1 (Nat.zero_le _) hm1 gr85 (by omega) (by simp only [maxLen]; omega) (by omega) rfl (fun r2 hr2 hm2 => ?_))) | (show J _ _ _ _ _ _ (⟨_, .extract _ _, _, _, _, _⟩ :: _) _ _; refine jy (yextractL rfl rfl) rfl rfl ?_) | (show J _ _ _ _ _ _ (⟨_, .indexAddr 85 _ _, _, _, _, _⟩ :: _) _ _; refine jy (yat (p' := ⟨g, oat k l * 2, none⟩) rfl rfl und85 sz89 (by omega) (by omega) (by rw [add_lit]; rfl)) rfl rfl ?_) | (show J _ _ _ _ _ _ (⟨_, .build 89 _, _, _, _, _⟩ :: _) _ _; refine jy (ybuild rfl (bu89 _ _)) rfl rfl ?_) | (show J _ _ _ _ _ _ (⟨_, .buildSlice 85 1 _, _, _, _, _⟩ :: _) _ _; refine jlit1 (c := pcs [(k, v)]) rfl rfl rfl gr85 rfl rfl rfl (fun gl hT => ?_)) | (show J _ _ _ _ _ _ (⟨_, .build _ _, _, _, _, _⟩ :: _) _ _; refine jy (ybuild rfl (by first | exact bu0 | exact bu3 _)) rfl rfl ?_)))
    refine ret1 rfl rfl rfl (fun w' hw' => ?_)
    rw [e1, pcs_app, List.length_append]
    exact ⟨r2, rfl, (hw.up hw').less (List.sublist_append_right [_] _), hr2, Row.may_up hw hm2⟩
end Go.Proofs.Ytmmggofbpcmliaa.OrdS
