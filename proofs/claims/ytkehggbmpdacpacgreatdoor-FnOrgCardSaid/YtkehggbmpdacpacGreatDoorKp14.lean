/- The page laws: texts that all of them use, joined (part 14): Pg52, Pg53, Lex8, Pg54, Pg55, Pg56, Pg57, LwHas, LwFits, LwAsc, LwNm, Sp1. -/
import Derived.Test.YtkehggbmpdacpacGreatDoorProg
import Derived.Test.YtkehggbmpdacpacGreatDoorKp0
import Derived.Test.YtkehggbmpdacpacGreatDoorKp9
import Derived.Test.YtkehggbmpdacpacGreatDoorKp10
import Derived.Test.YtkehggbmpdacpacGreatDoorKp12
import Derived.Test.YtkehggbmpdacpacGreatDoorKp13
set_option maxRecDepth 100000
set_option linter.unusedVariables false
set_option linter.unusedSimpArgs false
set_option linter.unusedSectionVars false
namespace Go.Proofs.YtkehggbmpdacpacGreatDoor.Pg
open Go.Rx hiding bt
open Go.RowKit Go.Proofs.YtkehggbmpdacpacGreatDoor.Dec0 Go.Proofs.YtkehggbmpdacpacGreatDoor.Lex0
theorem bo16 : bodyB Tryz.prog 16 = true := by kernel_rfl
@[reducible] def hdP (bs : ByteArray) (fr dv : Bool) (g cap : Nat) (r : List Value) : Hd := ⟨0, g, 0, 0, cap, bs.data.toList, r, .nilFunc, !fr, !dv⟩
set_option maxHeartbeats 1000000 in
theorem parse_calls {w : World} (hT : Tab w) (bs : ByteArray) (fr dv : Bool) (hbig : bs.data.toList.length ≤ 4294967296) (l : List Itm) (hl : l = parse envT bs.data.toList fr dv) (hll : l.length ≤ 1000000000000) (hin : ∀ it ∈ l, InI bs.data.toList it) :
    Calls Tryz.prog 16 #[.string bs, .bool fr, .bool dv] w fun e w' => ∃ r : Row, e = .returned (r.val l.length) ∧ Has (r.mem (tisC bs.data.toList l) 51) w' ∧ r.ok w.heap.size 5 l.length (tisC bs.data.toList l) ∧ Below w.heap.size w w' := by
  refine enter (fun _ => False) 12 [] Tryz.func16 rfl rfl rfl (vs := [.string bs, .bool fr, .bool dv]) (Has.nil _) ?_
  have hW : ∃ W, Bs W ⟨12, [], fun _ => False, w⟩ ∧ Tab W := ⟨w, ⟨Below.refl _ _, fun k h => h.elim⟩, hT⟩
  conv => arg 2; arg 2; whnf
  repeat' (first | refine cseq ?_ | refine rtext ?_ | refine cret ?_ | refine jnil ?_ | (first | refine jmv rfl rfl rfl ?_ | refine jas_ rfl rfl rfl ?_ | (show Jo _ (.call _); ((show Jo _ (.call ⟨.value (.func 34), _, _⟩); refine jcall (ι := Row) (vs := [.slice (some ⟨g, 0, none⟩) bs.size cap, .bool fr, .bool dv]) _ bo38 rfl rfl rfl (fun w' hw' => (items_calls (H1 := hdP bs fr dv g cap rr) fr dv rfl rfl hW hcap hbig l hl hll hin w' hw').mono fun e w'' ⟨r, h1, h2, h3⟩ => ⟨r, h1, h2, h3⟩) (fun r hr => ?_)))) | (show Jo _ (.convert _ _ _); refine jbytes rfl und9' und59 und5' rfl (fun g cap rr hg hcap => ?_))))
  exact ret1 rfl rfl rfl (fun w' hw' => ⟨r, rfl, hw'.1, hr, hw'.2.below (fun k _ h => h) (Nat.le_refl _)⟩)
theorem al_ascii : ∀ k : Fin 128, alU (k.val : Int) = isW (UInt8.ofNat k.val) := by decide +kernel
theorem ea_env : EA envT := ⟨fun c hc => by
  have := al_ascii ⟨c.toNat, hc⟩
  rw [show UInt8.ofNat (⟨c.toNat, hc⟩ : Fin 128).val = c from UInt8.ofNat_toNat] at this
  exact this, env_al⟩
theorem trS_sp {c : UInt8} {r : T} (h1 : c.toNat < 128) (h2 : isSp c.toNat = true) : trS (c :: r) = trS r := by
  show (if 128 ≤ c.toNat then trimU (c :: r) else if isSp c.toNat then trS r else trE (c :: r)) = _
  rw [if_neg (by omega), if_pos h2]
theorem trS_no {c : UInt8} {r : T} (h1 : c.toNat < 128) (h2 : isSp c.toNat = false) : trS (c :: r) = trE (c :: r) := by
  show (if 128 ≤ c.toNat then trimU (c :: r) else if isSp c.toNat then trS r else trE (c :: r)) = _
  rw [if_neg (by omega), if_neg (by rw [h2]; exact Bool.noConfusion)]
theorem dw_nil {p : UInt8 → Bool} : ∀ {l : T}, l.dropWhile p = [] → ∀ c ∈ l, p c = true
  | [], _, c, hc => by cases hc
  | a :: l, h, c, hc => by
    rw [List.dropWhile_cons] at h
    split at h
    · rename_i ha
      rcases List.mem_cons.1 hc with rfl | hc
      · exact ha
      · exact dw_nil h c hc
    · cases h
theorem trE_ne {s : T} (ha : asc s) {c : UInt8} (hc : c ∈ s) (hs : isSp c.toNat = false) : trE s ≠ [] := by
  unfold trE
  cases h : s.reverse.dropWhile (fun c => isSp c.toNat) with
  | nil =>
    have := dw_nil h c (List.mem_reverse.2 hc)
    rw [hs] at this
    cases this
  | cons d t =>
    have hd : d ∈ s := List.mem_reverse.1 (List.dropWhile_sublist _ |>.subset (by rw [h]; exact List.mem_cons_self ..))
    dsimp only
    rw [if_neg (by have := ha d hd; omega)]
    simp
theorem tra_env : TrA envT := ⟨fun t => by
  show asc t → (trS t).isEmpty = isSpT t
  induction t with
  | nil => intro _; rfl
  | cons c r ih =>
    intro h
    have hc := h c (List.mem_cons_self ..)
    have e : isSpT (c :: r) = (isSp c.toNat && isSpT r) := rfl
    rw [e]
    cases hs : isSp c.toNat
    · rw [trS_no hc hs]
      have := trE_ne h (List.mem_cons_self ..) hs
      cases ht : trE (c :: r) with
      | nil => exact absurd ht this
      | cons a b => rfl
    · rw [trS_sp hc hs, ih (fun c hc => h c (List.mem_cons_of_mem _ hc))]
      rfl⟩
end Go.Proofs.YtkehggbmpdacpacGreatDoor.Pg
namespace Go.Proofs.YtkehggbmpdacpacGreatDoor.Pg
open Go.Proofs.YtkehggbmpdacpacGreatDoor.Dec0 Go.Proofs.YtkehggbmpdacpacGreatDoor.Lex0
def AllIn (s : T) (x : Lx) : Prop := ∀ it ∈ x.items, InI s it
theorem in_mk {s : T} {it : Itm} (hs : it.segs = []) (h1 : it.low ≤ it.high) (h2 : it.high ≤ s.length) : InI s it := ⟨fun _ => ⟨h1, h2⟩, by rw [hs]; exact Nat.zero_le _, by rw [hs]; exact Nat.zero_le _⟩
theorem in_app {s : T} {x y : Lx} {k : List Itm} (h : AllIn s x) (hy : y.items = x.items ++ k) (hk : ∀ it ∈ k, InI s it) : AllIn s y := fun it hi => by
  rw [hy] at hi
  rcases List.mem_append.1 hi with h' | h'
  · exact h it h'
  · exact hk it h'
theorem in_same {s : T} {x y : Lx} (h : AllIn s x) (hy : y.items = x.items) : AllIn s y := fun it hi => h it (by rw [← hy]; exact hi)
theorem in_emit {s : T} {x : Lx} {t : Nat} (h : AllIn s x) (h1 : x.start ≤ x.pos) (h2 : x.pos ≤ s.length) : AllIn s (emit t x) := in_app h rfl fun it hi => by
  rw [List.mem_singleton.1 hi]
  exact in_mk rfl h1 h2
theorem in_emitS {s : T} {x : Lx} {t : Nat} (h : AllIn s x) (h1 : x.start ≤ x.pos) (h2 : x.pos ≤ s.length) : AllIn s (emitS t x) := in_app h rfl fun it hi => by
  rw [List.mem_singleton.1 hi]
  exact in_mk rfl h1 h2
theorem in_err {s : T} {x : Lx} (h : AllIn s x) (h1 : x.start ≤ x.pos) (h2 : x.pos ≤ s.length) : AllIn s (errI x) := in_app h rfl fun it hi => by
  rw [List.mem_singleton.1 hi]
  exact in_mk rfl h1 h2
theorem in_txts {s : T} {a b : Nat} (h1 : a ≤ b) (h2 : b ≤ s.length) : ∀ it ∈ txts s a b, InI s it := by
  have hk : ((cut s a b).reverse.takeWhile isBl).length ≤ b - a := by
    have := (List.takeWhile_sublist isBl (l := (cut s a b).reverse)).length_le
    rw [List.length_reverse, cut_len h2] at this
    exact this
  unfold txts
  dsimp only
  generalize ((cut s a b).reverse.takeWhile isBl).length = k at hk ⊢
  intro it hi
  split at hi
  · rw [List.mem_singleton.1 hi]; exact in_mk rfl h1 h2
  · split at hi
    · simp only [List.mem_cons, List.not_mem_nil, or_false] at hi
      rcases hi with rfl | rfl
      · exact in_mk rfl (by dsimp only [mk]; omega) (by dsimp only [mk]; omega)
      · exact in_mk rfl (by dsimp only [mk]; omega) (by dsimp only [mk]; omega)
    · rw [List.mem_singleton.1 hi]; exact in_mk rfl h1 h2
theorem in_emitT {s : T} {x : Lx} (h : AllIn s x) (h1 : x.start ≤ x.pos) (h2 : x.pos ≤ s.length) : AllIn s (emitT s x) := in_app h rfl (in_txts h1 h2)
theorem segs_in {n : Nat} : ∀ (l : T) (a k i : Nat), a ≤ k → k ≤ i → i + l.length ≤ n → SegCh n a (segsL l k i) ∧ (segsL l k i).length ≤ l.length + (if k < i then 1 else 0)
  | [], a, k, i, h1, h2, h3 => by
    unfold segsL
    have h3 : i ≤ n := by simpa using h3
    split
    · exact ⟨⟨h1, h2, h3⟩, by simp⟩
    · exact ⟨show a ≤ n by omega, by simp⟩
  | c :: r, a, k, i, h1, h2, h3 => by
    rw [List.length_cons] at h3 ⊢
    unfold segsL
    split
    · split
      · have h := segs_in (n := n) r i (i + 1) (i + 1) (Nat.le_succ _) (Nat.le_refl _) (by omega)
        rw [if_neg (Nat.lt_irrefl _)] at h
        exact ⟨⟨h1, h2, h.1⟩, by rw [List.length_cons]; omega⟩
      · have h := segs_in (n := n) r a (i + 1) (i + 1) (by omega) (Nat.le_refl _) (by omega)
        rw [if_neg (Nat.lt_irrefl _)] at h
        exact ⟨h.1, by omega⟩
    · have h := segs_in (n := n) r a k (i + 1) h1 (by omega) (by omega)
      rw [if_pos (by omega)] at h
      refine ⟨h.1, ?_⟩
      have := h.2
      split <;> omega
theorem in_emitE {s : T} {x : Lx} {t : Nat} (h : AllIn s x) (h1 : x.start ≤ x.pos) (h2 : x.pos ≤ s.length) : AllIn s (emitE t s x) := by
  have hs := segs_in (n := s.length) (cut s x.start x.pos) 0 x.start x.start (Nat.zero_le _) (Nat.le_refl _) (by rw [cut_len h2]; omega)
  rw [if_neg (Nat.lt_irrefl _), cut_len h2] at hs
  unfold emitE
  split
  · exact in_same h rfl
  · rename_i hne
    refine in_app h rfl fun it hi => ?_
    rw [List.mem_singleton.1 hi]
    exact ⟨fun he => absurd he hne, hs.1, Nat.le_trans hs.2 (by omega)⟩
theorem in_qEnd {s : T} {x : Lx} (h : AllIn s x) : AllIn s (qEnd s x) := by
  unfold qEnd
  split <;> exact in_same h rfl
section
variable {E : Env} {s : T} {dv : Bool} {x : Lx} (hp : x.pos ≤ s.length) (hs : x.start ≤ x.pos) (hA : AllIn s x)
include hp hs hA
omit hp in
theorem fail_in (n : Nat) (hn : x.pos + n ≤ s.length) : AllIn s (fail (mv n x)).1 := in_err (x := mv n x) (in_same hA rfl) (Nat.le_trans hs (Nat.le_add_right _ _)) hn
theorem done_in : AllIn s (done s x).1 := by
  unfold done
  split
  · exact in_emit (x := emitT s x) (in_emitT hA hs hp) (Nat.le_refl _) hp
  · exact in_emit hA hs hp
theorem left_in (hh : Here E s .left x) : AllIn s (left s x).1 := by
  have h3 := Lex0.pre_len (show (if x.md then lmd else lno : T).isPrefixOf (s.drop x.pos) = true from hh)
  rw [lf3, List.length_drop] at h3
  unfold left
  split
  · exact in_same hA rfl
  · exact in_same (in_emit (x := mv 3 x) (t := if x.md then 10 else 8) (in_same hA rfl) (Nat.le_trans hs (Nat.le_add_right _ _)) (by dsimp only [mv]; omega)) rfl
theorem comment_in : AllIn s (comment s x).1 := by
  unfold comment
  split
  · exact in_err hA hs hp
  · rename_i q hq
    have hb := (b_idx hq).1
    rw [List.length_append, rd3, List.length_drop] at hb
    simp only [List.length_cons, List.length_nil] at hb
    split
    · exact in_err hA hs hp
    · have h1 : AllIn s (mv (q - 2) (ign (mv 2 (emitT s x)))) := in_same (in_emitT hA hs hp) rfl
      have h2 : AllIn s (mv 3 (ign (mv 2 (emitT s (mv (q - 2) (ign (mv 2 (emitT s x)))))))) := in_same (in_emitT h1 (by dsimp only [mv, ign, emitT]; omega) (by dsimp only [mv, ign, emitT]; omega)) rfl
      exact in_emitT h2 (by dsimp only [mv, ign, emitT]; omega) (by dsimp only [mv, ign, emitT]; omega)
theorem right_in (hh : Here E s .right x) : AllIn s (right x).1 := by
  have h3 := Lex0.pre_len (show (rd x.md).isPrefixOf (s.drop x.pos) = true from hh)
  rw [rd3, List.length_drop] at h3
  unfold right
  exact in_emit (x := { mv 3 x with closing := 0 }) (in_same hA rfl) (Nat.le_trans hs (Nat.le_add_right _ _)) (by dsimp only [mv]; omega)
theorem pval_in : AllIn s (pval s x).1 := by
  have hb := b_tosp (s.drop x.pos)
  rw [List.length_drop] at hb
  unfold pval
  exact in_emit (x := mv _ x) (in_same hA rfl) (Nat.le_trans hs (Nat.le_add_right _ _)) (by dsimp only [mv]; omega)
theorem endsc_in : AllIn s (endsc s x).1 := by
  unfold endsc
  dsimp only
  split
  · exact in_same hA rfl
  · split
    · exact in_err (x := { x with inl := false }) (in_same hA rfl) hs hp
    · rename_i c r hd
      have hl := congrArg List.length hd
      rw [List.length_drop, List.length_cons] at hl
      split
      · exact in_same hA rfl
      · have hw := wd_le (c :: r)
        rw [List.length_cons] at hw
        exact fail_in (x := { x with inl := false }) hs (in_same hA rfl) _ (by dsimp only; omega)
theorem quoted_in (alw : Bool) (ty : Nat) : AllIn s (Lex0.quoted s alw ty x).1 := by
  obtain ⟨h1, h2, h3, h4⟩ := b_q alw (s.drop x.pos) 0 none false false false (by simp)
  rw [List.length_drop] at h2
  unfold Lex0.quoted
  dsimp only
  generalize qLoop alw (s.drop x.pos) 0 none false false false = q at h1 h2 h3 h4 ⊢
  have hst : stAt x q.2.2.1 ≤ x.pos + q.2.1 := by
    cases hq : q.2.2.1 with
    | none => unfold stAt; dsimp only; omega
    | some k => unfold stAt; have := h3 k hq; dsimp only; omega
  have hpy : x.pos + q.2.1 ≤ s.length := by omega
  have hy : AllIn s { x with pos := x.pos + q.2.1, start := stAt x q.2.2.1 } := in_same hA rfl
  split
  · exact in_err hy hst hpy
  · refine in_qEnd ?_
    split
    · exact in_emitE hy hst hpy
    · exact in_emitS hy hst hpy
theorem raw_in (ty : Nat) : AllIn s (raw s ty x).1 := by
  obtain ⟨h1, h2, h3, h4, h5⟩ := b_r (s.drop x.pos) 0 none false (by simp)
  rw [List.length_drop] at h2 h5
  unfold raw
  dsimp only
  generalize rLoop (s.drop x.pos) 0 none false = q at h1 h2 h3 h4 h5 ⊢
  have hst : stAt x q.2.2 ≤ x.pos + q.2.1 := by
    cases hq : q.2.2 with
    | none => unfold stAt; dsimp only; omega
    | some k => unfold stAt; have := h3 k hq; dsimp only; omega
  have hpy : x.pos + q.2.1 ≤ s.length := by omega
  have hy : AllIn s { x with pos := x.pos + q.2.1, start := stAt x q.2.2 } := in_same hA rfl
  split
  · exact in_err hy hst hpy
  · exact in_same (in_emitS hy hst hpy) rfl
theorem param_in (esc : Bool) : AllIn s (param E s esc x).1 := by
  have h1n : rn (s.drop x.pos) = 34 ∨ rn (s.drop x.pos) = 96 → x.pos + 1 ≤ s.length := fun h => by
    have hne : s.drop x.pos ≠ [] := fun h0 => by rw [h0] at h; rw [show rn [] = -1 from rfl] at h; omega
    have := List.length_pos_iff.2 hne
    rw [List.length_drop] at this
    omega
  have ff : ∀ (n : Nat), x.pos + n ≤ s.length → AllIn s (fail (mv n x)).1 := fun n hn => fail_in hs hA n hn
  unfold param
  dsimp only
  split
  · rename_i hq
    have h34 : rn (s.drop x.pos) = 34 ∨ rn (s.drop x.pos) = 96 := by rcases hq with h | h; exact .inl h; exact .inr h.1
    split
    · exact ff 1 (h1n h34)
    · split
      · exact quoted_in (x := { x with par := 1 }) hp hs (in_same hA rfl) (!esc) 15
      · exact raw_in (x := { x with par := 1 }) hp hs (in_same hA rfl) 15
  · split
    · rename_i h96
      exact ff 1 (h1n (.inr h96))
    · have hb := b_run (parR E) _ (s.drop x.pos) (Nat.le_refl _)
      rw [List.length_drop] at hb
      generalize Lex0.runN (parR E) (s.drop x.pos) = n at hb ⊢
      have hn : x.pos + n ≤ s.length := by omega
      split
      · exact in_emit (x := { mv n x with par := _ }) (in_same hA rfl) (Nat.le_trans hs (Nat.le_add_right _ _)) hn
      · split
        · exact ff n hn
        · split
          · exact ff n hn
          · exact in_emit (x := mv n x) (in_same hA rfl) (Nat.le_trans hs (Nat.le_add_right _ _)) hn
theorem ident_in : AllIn s (ident E s x).1 := by
  have hb := b_id E _ (s.drop x.pos) 0 x.inl (Nat.le_refl _)
  rw [List.length_drop] at hb
  unfold ident
  dsimp only
  generalize idLoop E (s.drop x.pos) 0 x.inl = q at hb ⊢
  have hq : x.pos + q.2.1 ≤ s.length := by omega
  have hy : AllIn s { x with pos := x.pos + q.2.1, inl := q.2.2 } := in_same hA rfl
  split
  · exact in_err hy (Nat.le_trans hs (Nat.le_add_right _ _)) hq
  · split
    · exact in_err hy (Nat.le_trans hs (Nat.le_add_right _ _)) hq
    · exact in_app hA (k := [_]) rfl fun it hi => by
        rw [List.mem_singleton.1 hi]
        exact in_mk rfl (Nat.le_trans hs (Nat.le_add_right _ _)) hq
theorem inside_in : AllIn s (inside E s x).1 := by
  unfold inside
  dsimp only
  split
  · exact hA
  · split
    · exact in_err hA hs hp
    · rename_i hne
      have hl := List.length_pos_iff.2 hne
      rw [List.length_drop] at hl
      have hw := wd_le (s.drop x.pos)
      rw [List.length_drop] at hw
      split
      · exact in_same hA rfl
      · split
        · have hb := b_sp ((s.drop x.pos).drop 1)
          rw [List.length_drop, List.length_drop] at hb
          have hy : (ign (mv (1 + spN ((s.drop x.pos).drop 1)) x)).pos ≤ s.length := by dsimp only [mv, ign]; omega
          split
          · exact quoted_in (x := ign (mv (1 + spN ((s.drop x.pos).drop 1)) x)) hy (Nat.le_refl _) (in_same hA rfl) _ 16
          · split
            · exact raw_in (x := ign (mv (1 + spN ((s.drop x.pos).drop 1)) x)) hy (Nat.le_refl _) (in_same hA rfl) 16
            · exact in_same hA rfl
        · split
          · split
            · exact fail_in hs hA 1 (by omega)
            · exact in_emit (x := { mv 1 x with closing := x.closing + 1, inl := false, step := 0 }) (in_same hA rfl) (Nat.le_trans hs (Nat.le_add_right _ _)) (by dsimp only [mv]; omega)
          · split
            · have hy : (ign (mv 1 x)).pos ≤ s.length := by dsimp only [mv, ign]; omega
              split
              · exact param_in (x := ign (mv 1 x)) hy (Nat.le_refl _) (in_same hA rfl) true
              · exact in_same hA rfl
            · split
              · exact param_in hp hs hA false
              · split
                · exact hA
                · exact fail_in hs hA _ (by omega)
theorem piece_in (hl : x.pos + 2 ≤ s.length) : AllIn s (piece E s dv x).1 := by
  unfold piece
  dsimp only
  split
  · split
    · exact in_same (in_err hA hs hp) rfl
    · exact in_same hA rfl
  · split
    · rename_i hd
      simp only [Bool.and_eq_true] at hd
      have h1 := Lex0.pre_len hd.2
      have h3 := b_sp ((s.drop x.pos).drop (divr x.org).length)
      rw [List.length_drop] at h1
      rw [List.length_drop, List.length_drop] at h3
      exact in_app hA (k := [_]) rfl fun it hi => by
        rw [List.mem_singleton.1 hi]
        exact in_mk rfl (by dsimp only [mk]; omega) (by dsimp only [mk]; omega)
    · exact in_same hA rfl
theorem main_in : AllIn s (main E s dv x).1 := by
  unfold main
  split
  · exact hA
  · split
    · exact in_same hA rfl
    · rename_i q hq
      have hb := b_found hp hs hq
      have h1 : AllIn s (mv q x) := in_same hA rfl
      split
      · exact piece_in (x := emitT s (mv q x)) (by show x.pos + q ≤ _; omega) (Nat.le_refl _) (in_emitT h1 (Nat.le_trans hs (Nat.le_add_right _ _)) (by show x.pos + q ≤ _; omega)) (by show x.pos + q + 2 ≤ _; omega)
      · exact piece_in (x := mv q x) (by show x.pos + q ≤ _; omega) (Nat.le_trans hs (Nat.le_add_right _ _)) h1 (by show x.pos + q + 2 ≤ _; omega)
theorem json_in : AllIn s (json s x).1 := by
  unfold json
  split
  · exact in_err (x := { x with pos := s.length }) (in_same hA rfl) (by dsimp only; omega) (Nat.le_refl _)
  · rename_i n hn
    have hb := b_json _ _ _ _ _ _ (Nat.le_refl _) hn
    have hc := b_crlf (s.drop (x.pos + n))
    rw [List.length_drop] at hb hc
    exact in_emit (x := mv _ x) (in_same hA rfl) (Nat.le_trans hs (Nat.le_add_right _ _)) (by dsimp only [mv]; omega)
theorem org_in : AllIn s (org s x).1 := by
  unfold org
  split
  · have hb := b_org (s.drop x.pos) 0
    rw [List.length_drop] at hb
    exact in_app hA (k := [_]) rfl fun it hi => by
      rw [List.mem_singleton.1 hi]
      exact in_mk rfl (by dsimp only [mk, mv]; omega) (by dsimp only [mk, mv]; omega)
  · exact hA
theorem fence_in (c : UInt8) (ty : Nat) : AllIn s (fence s c ty x).1 := by
  have ff : ∀ (n : Nat), x.pos + n ≤ s.length → AllIn s (fail (mv n x)).1 := fun n hn => fail_in hs hA n hn
  unfold fence
  split
  · rename_i a b r hd
    have hl := congrArg List.length hd
    rw [List.length_drop] at hl
    simp only [List.length_cons] at hl
    split
    · split
      · dsimp only
        have hc := b_crlf r
        split
        · exact in_err (x := { ign (mv (2 + crlf r) x) with pos := s.length }) (in_same hA rfl) (by dsimp only [ign, mv]; omega) (Nat.le_refl _)
        · rename_i n hn
          have hb := b_fr0 _ _ _ _ hn
          rw [List.length_drop] at hb
          simp only [List.length_cons, List.length_nil] at hb
          dsimp only [ign, mv] at hb
          exact in_same (in_emit (x := mv n (ign (mv (2 + crlf r) x))) (t := ty) (in_same hA rfl) (Nat.le_add_right _ _) (by dsimp only [ign, mv]; omega)) rfl
      · have hw := wd_le (b :: r)
        simp only [List.length_cons] at hw
        exact ff _ (by omega)
    · have hw := wd_le (a :: b :: r)
      simp only [List.length_cons] at hw
      exact ff _ (by omega)
  · rename_i a hd
    have hl := congrArg List.length hd
    rw [List.length_drop] at hl
    simp only [List.length_cons, List.length_nil] at hl
    split
    · exact ff 1 (by omega)
    · have hw := wd_le [a]
      simp only [List.length_cons, List.length_nil] at hw
      exact ff _ (by omega)
  · exact ff 0 hp
omit hp in
theorem intro_in : AllIn s (intro s x).1 := by
  have hb := b_sp (s.drop x.pos)
  rw [List.length_drop] at hb
  unfold intro
  dsimp only
  split
  · exact in_same hA rfl
  · rename_i c r hd
    have hl := congrArg List.length hd
    rw [List.length_drop] at hl
    simp only [List.length_cons, mv] at hl
    have fe : ∀ (c : UInt8) (ty : Nat), AllIn s (fence s c ty (mv 1 (mv (spN (s.drop x.pos)) x))).1 := fun c ty =>
      fence_in (x := mv 1 (mv (spN (s.drop x.pos)) x)) (by dsimp only [mv]; omega) (by dsimp only [mv]; omega) (in_same hA rfl) c ty
    split
    · exact fe _ _
    · split
      · exact fe _ _
      · split
        · exact in_same hA rfl
        · split <;> exact in_same hA rfl
end
theorem step_in {E : Env} {s : T} {dv : Bool} {st : Lex0.St} {x : Lx} (h : Lex0.Good E s st x) (hA : AllIn s x) : AllIn s (Lex0.step E s dv st x).1 := by
  obtain ⟨hp, hs, hh⟩ := h
  cases st with
  | main => exact main_in hp hs hA
  | done => exact done_in hp hs hA
  | left => exact left_in hp hs hA hh
  | comment => exact comment_in hp hs hA
  | right => exact right_in hp hs hA hh
  | inside => exact inside_in hp hs hA
  | pval => exact pval_in hp hs hA
  | ident => exact ident_in hp hs hA
  | endsc => exact endsc_in hp hs hA
  | intro => exact intro_in hs hA
  | json => exact json_in hp hs hA
  | org => exact org_in hp hs hA
theorem runs_in {E : Env} (hal : E.al (-1) = false) {s : T} {dv : Bool} {n : Nat} {st : Lex0.St} {x : Lx} {l : List Itm} (h : RunsN E s dv n st x l) : Lex0.Good E s st x → AllIn s x → (∀ it ∈ l, InI s it) ∧ l.length ≤ x.items.length + 6 * (n + 1) := by
  induction h with
  | @stop n st x y h =>
    intro hg hA
    have h1 := step_in (dv := dv) hg hA
    obtain ⟨k, h2, h3⟩ := (step_fwd (dv := dv) hal hg).1.its
    rw [h] at h1 h2
    exact ⟨h1, by dsimp only at h2; rw [h2, List.length_append]; omega⟩
  | @go n st x st' y l h _ ih =>
    intro hg hA
    have h1 := step_in (dv := dv) hg hA
    obtain ⟨k, h2, h3⟩ := (step_fwd (dv := dv) hal hg).1.its
    rw [h] at h1 h2
    dsimp only at h2
    obtain ⟨i1, i2⟩ := ih (step_good hal hg h).1 h1
    exact ⟨i1, by rw [h2, List.length_append] at i2; omega⟩
theorem parse_in (s : T) (front dv : Bool) : (∀ it ∈ parse envT s front dv, InI s it) ∧ (parse envT s front dv).length ≤ 24 * s.length + 24 := by
  obtain ⟨h1, h2⟩ := runs_in env_al (parsesN' env_al s front dv) (good0 envT s front) (fun it hi => by cases hi)
  exact ⟨h1, Nat.le_trans h2 (by show 0 + _ ≤ _; omega)⟩
end Go.Proofs.YtkehggbmpdacpacGreatDoor.Pg
namespace Go.Proofs.YtkehggbmpdacpacGreatDoor.Pg
open Go.Rx hiding bt
open Go.RowKit Go.Proofs.YtkehggbmpdacpacGreatDoor.Dec0 Go.Proofs.YtkehggbmpdacpacGreatDoor.Lex0
noncomputable def told (s : T) (front dv : Bool) : List Ti := (parse envT s front dv).map (toldI envT s)
theorem tisC_told (s : T) (front dv : Bool) : tisC s (parse envT s front dv) = (told s front dv).flatMap tiC := by
  unfold tisC told
  rw [List.flatMap_map]
theorem parse16_calls {w : World} (hT : Tab w) (bs : ByteArray) (front dv : Bool) (hbig : bs.data.toList.length ≤ 4294967296) :
    Calls Tryz.prog 16 #[.string bs, .bool front, .bool dv] w fun e w' => ∃ r : Row, e = .returned (r.val (told bs.data.toList front dv).length) ∧ Has (r.mem ((told bs.data.toList front dv).flatMap tiC) 51) w' ∧ r.ok w.heap.size 5 (told bs.data.toList front dv).length ((told bs.data.toList front dv).flatMap tiC) ∧ Below w.heap.size w w' := by
  obtain ⟨h1, h2⟩ := parse_in bs.data.toList front dv
  have := parse_calls hT bs front dv hbig _ rfl (by omega) h1
  rw [tisC_told] at this
  have e : (told bs.data.toList front dv).length = (parse envT bs.data.toList front dv).length := List.length_map _
  rw [e]
  exact this
theorem fb29_0 : fieldB Tryz.prog 31 0 = some 0 := by kernel_rfl
theorem fb29_1 : fieldB Tryz.prog 31 1 = some 1 := by kernel_rfl
theorem one9' : oneB Tryz.prog 9 = true := by kernel_rfl
theorem si9' : (Tryz.prog.info? 9).map (·.size) = some 1 := by kernel_rfl
def bkB (g : Nat) (txt : ByteArray) (v : Value) : Nat × List Value × Bk := (g, [.string txt, v], .c 31)
theorem bo51 : bodyB Tryz.prog 43 = true := by kernel_rfl
theorem eg42 : Tryz.prog.eqGuardType Tryz.prog.depth 51 = false := by kernel_rfl
theorem ee42 (a b : Int) (c : ByteArray) (d : Bool) (e : Int) (a' b' : Int) (c' : ByteArray) (d' : Bool) (e' : Int) : eqE Tryz.prog 10000 51 (.agg [.int .i64 a, .int .i64 b, .string c, .bool d, .int .u16 e].toArray) (.agg [.int .i64 a', .int .i64 b', .string c', .bool d', .int .u16 e'].toArray) = some (decide (a = a') && (decide (b = b') && (decide (c = c') && ((d == d') && (decide (e = e') && true))))) := by kernel_rfl
theorem es42 (a b : Int) (c : ByteArray) (d : Bool) (e : Int) : eqE Tryz.prog 10000 51 (.agg [.int .i64 a, .int .i64 b, .string c, .bool d, .int .u16 e].toArray) (.agg [.int .i64 a, .int .i64 b, .string c, .bool d, .int .u16 e].toArray) = some true := by rw [ee42]; simp
theorem fb42_0 : fieldB Tryz.prog 51 0 = some 0 := by kernel_rfl
theorem fb42_3 : fieldB Tryz.prog 51 3 = some 3 := by kernel_rfl
theorem und4' : Tryz.prog.underlying 4 = some .bool := by kernel_rfl
theorem same_calls {w : World} (t : Ti) : Calls Tryz.prog 43 #[.agg (tiC t).toArray, .agg (tiC t).toArray] w fun e w' => e = .returned (.bool true) ∧ Below w.heap.size w w' := by
  refine enter (fun _ => False) 21 [] Tryz.func43 rfl rfl rfl (vs := [.agg (tiC t).toArray, .agg (tiC t).toArray]) (Has.nil _) ?_
  conv => arg 2; arg 2; whnf
  by_cases h0 : t.ty = 0
  · repeat' (first | refine cseq ?_ | refine rtext ?_ | refine ctrue rfl ?_ | refine cret ?_ | refine tret ?_ | refine jnil ?_ | (first | refine jmv rfl rfl rfl ?_ | (show Jo _ (.fieldAddr _ _ _); refine jy (yfield rfl (by first | exact fb42_0 | exact fb42_3) rfl) rfl rfl ?_) | (show Jo _ (.load _ _); first | refine jy (yload (i := 0) rfl rfl rfl one3) rfl rfl ?_ | refine jy (yload (i := 1) rfl rfl rfl one3) rfl rfl ?_) | refine jas_ rfl rfl rfl ?_ | (show Jo _ (.binOp _ _ _ _ _); first | (show Jo _ (.binOp .eql 4 _ _ _); refine jy (ybeq (c := true) rfl rfl und4' (by simp)) rfl rfl ?_) | refine jy (yeql rfl rfl (by (exact decide_eq_true (by omega)))) rfl rfl ?_) | (show Jo _ (.pick _ _ _); refine jy (ypick1 rfl rfl) rfl rfl ?_) | (show Jo (some 2) (.box _ _); refine jbox rfl rfl rfl (fun g2 h2 => ?_)) | (show Jo (some 3) (.box _ _); refine jbox rfl rfl rfl (fun g3 h3 => ?_))))
    exact ret1 rfl rfl rfl (fun w' hw' => ⟨rfl, hw'.2.below (fun k _ h => h) (Nat.le_refl _)⟩)
  · repeat' (first | refine cseq ?_ | refine rtext ?_ | refine cfalse rfl ?_ | refine cskip ?_ | refine cret ?_ | refine jnil ?_ | (first | refine js rfl rfl ?_ | refine jmv rfl rfl rfl ?_ | (show Jo _ (.fieldAddr _ _ _); refine jy (yfield rfl fb42_0 rfl) rfl rfl ?_) | (show Jo _ (.load _ _); first | refine jy (yload (i := 1) rfl rfl rfl one3) rfl rfl ?_ | refine jy (yloads (i := 0) rfl rfl ag42) rfl rfl ?_ | refine jy (yloads (i := 1) rfl rfl ag42) rfl rfl ?_) | refine jas_ rfl rfl rfl ?_ | (show Jo _ (.binOp _ _ _ _ _); first | (show Jo _ (.binOp .eql 51 _ _ _); refine jy (yeqA (xs := [_, _, _, _, _]) (ys := [_, _, _, _, _]) rfl rfl eg42 (es42 _ _ _ _ _)) rfl rfl ?_) | refine jy (yeql rfl rfl (by (exact decide_eq_false (by omega)))) rfl rfl ?_) | (show Jo _ (.pick _ _ _); refine jy (ypick0 rfl rfl) rfl rfl ?_) | (show Jo (some 2) (.box _ _); refine jbox rfl rfl rfl (fun g2 h2 => ?_)) | (show Jo (some 3) (.box _ _); refine jbox rfl rfl rfl (fun g3 h3 => ?_))))
    exact ret1 rfl rfl rfl (fun w' hw' => ⟨rfl, hw'.2.below (fun k _ h => h) (Nat.le_refl _)⟩)
theorem bo30 : bodyB Tryz.prog 36 = true := by kernel_rfl
theorem und24 : Tryz.prog.underlying 25 = some (.slice 51) := by kernel_rfl
theorem sz42 : szB Tryz.prog 51 5 = true := by kernel_rfl
def TisAt (w : World) (v : Value) (l : List Ti) : Prop := ∃ A c, v = .slice A l.length c ∧ ∀ (j : Nat) t, l[j]? = some t → ∃ ad, A = some ad ∧ ∀ (i : Nat) u, (tiC t)[i]? = some u → w.cell? ((ad.add (5 * j)).add i) = some u
theorem sameItems_calls {w : World} {v1 v2 : Value} {l : List Ti} (h1 : TisAt w v1 l) (h2 : TisAt w v2 l) (hl : l.length ≤ 1000000000000) : Calls Tryz.prog 36 #[v1, v2] w fun e w' => e = .returned (.bool true) ∧ Below w.heap.size w w' := by
  obtain ⟨A1, c1, rfl, k1⟩ := h1
  obtain ⟨A2, c2, rfl, k2⟩ := h2
  refine enter (fun _ => False) 27 [] Tryz.func36 rfl rfl rfl (vs := [.slice A1 l.length c1, .slice A2 l.length c2]) (Has.nil _) ?_
  conv => arg 2; arg 2; whnf
  repeat' ((fail_if_success (show PJ _ (Code.wp _ (Code.loop _) _) _ _)); first | first | refine cseq ?_ | refine rtext ?_ | refine cfalse rfl ?_ | refine cskip ?_ | refine cblk ?_ | refine jnil ?_ | (first | refine jmv rfl rfl rfl ?_ | refine jas_ rfl rfl rfl ?_ | (show Jo _ (.binOp _ _ _ _ _); ((show Jo _ (.binOp .neq _ _ _ _); refine jy (yneq rfl rfl (by (exact decide_eq_false (by omega)))) rfl rfl ?_))) | (show Jo _ (.call _); ((show Jo _ (.call ⟨.builtin .len, _, _⟩); refine jy (ylenl rfl und24) rfl rfl ?_)))))
  refine fin (f' := [(0, .slice A1 l.length c1), (1, .slice A2 l.length c2), (12, .int .i64 l.length), (13, .int .i64 (0 : Nat))]) (m' := [])
    (cloop (ι := Nat) (fun j => [(0, .slice A1 l.length c1), (1, .slice A2 l.length c2), (12, .int .i64 l.length), (13, .int .i64 (j : Nat))]) (fun _ => []) (fun n j => n = l.length - j ∧ j ≤ l.length) l.length 0 ⟨rfl, Nat.zero_le _⟩ ?_) ⟨rfl, rfl, rfl, rfl, trivial⟩ rfl
  rintro n j ⟨rfl, hj⟩ K hK
  by_cases hlt : j < l.length
  · obtain ⟨t, ht⟩ : ∃ t, l[j]? = some t := ⟨_, List.getElem?_eq_getElem hlt⟩
    obtain ⟨ad1, rfl, hc1⟩ := k1 j t ht
    obtain ⟨ad2, rfl, hc2⟩ := k2 j t ht
    have hk := hK (l.length - (j + 1)) (j + 1) (by omega) ⟨rfl, by omega⟩
    repeat' (first | (show PJ _ (Code.wp _ _ _) _ _; first | refine cseq ?_ | refine rtext ?_ | refine ctrue rfl ?_ | refine cfalse rfl ?_ | refine cskip ?_ | refine cblk ?_ | refine rquiet mixed (by kernel_rfl) ?_) | refine tnorm ?_ | refine jnil ?_ | (first | refine jmv rfl rfl rfl ?_ | (show Jo _ (.load _ _); first | refine jy (yloadsw (c := tiC t) rfl hc1 (fun h => h) ag42) rfl rfl ?_ | refine jy (yloadsw (c := tiC t) rfl hc2 (fun h => h) ag42) rfl rfl ?_) | refine jas_ rfl rfl rfl ?_ | (show Jo _ (.binOp _ _ _ _ _); first | (show Jo _ (.binOp .add _ _ _ _); refine jy (yadd (c := ((j + 1 : Nat) : Int)) rfl rfl (by rw [i64_in (by omega) (by omega)]; omega)) rfl rfl ?_) | refine jy (ylss rfl rfl (by (exact decide_eq_true (by omega)))) rfl rfl ?_) | refine jy (ynot rfl rfl) rfl rfl ?_ | (show Jo _ (.call _); ((show Jo _ (.call ⟨.value (.func 43), _, _⟩); refine jcallq bo51 rfl rfl rfl (quietC fun w' hw' => same_calls t) ?_))) | (show Jo (some 18) (.indexAddr _ _ _); refine jy (yat (p' := ad1.add (5 * j)) rfl rfl und24 sz42 (by omega) (by omega) (by congr 1; omega)) rfl rfl ?_) | (show Jo (some 22) (.indexAddr _ _ _); refine jy (yat (p' := ad2.add (5 * j)) rfl rfl und24 sz42 (by omega) (by omega) (by congr 1; omega)) rfl rfl ?_)))
    exact fin hk ⟨rfl, rfl, rfl, rfl, trivial⟩ rfl
  · obtain rfl : j = l.length := by omega
    repeat' (first | refine cseq ?_ | refine rtext ?_ | refine cfalse rfl ?_ | refine cret ?_ | refine cexit ?_ | refine jnil ?_ | (first | refine jas_ rfl rfl rfl ?_ | (show Jo _ (.binOp _ _ _ _ _); refine jy (ylss rfl rfl (by (exact decide_eq_false (by omega)))) rfl rfl ?_)))
    exact ret1 rfl rfl rfl (fun w' hw' => ⟨rfl, hw'.2.below (fun k _ h => h) (Nat.le_refl _)⟩)
end Go.Proofs.YtkehggbmpdacpacGreatDoor.Pg
namespace Go.Proofs.YtkehggbmpdacpacGreatDoor.Lw
open Go.Rx
open Go.RowKit Go.Proofs.YtkehggbmpdacpacGreatDoor.Dec0 Go.Proofs.YtkehggbmpdacpacGreatDoor.Txt0
theorem und9 : Tryz.prog.underlying 9 = some .string := by kernel_rfl
theorem boHas : bodyB Tryz.prog 14 = true := by kernel_rfl
set_option maxHeartbeats 1000000 in
theorem has_calls (s x : ByteArray) (w : World) (hs : s.size ≤ 4611686018427387904) (hx : x.size ≤ 4294967296) : Calls Tryz.prog 14 #[.string s, .string x] w fun e w' => e = .returned (.bool (hasT x.data.toList s.data.toList)) ∧ Below w.heap.size w w' := by
  refine enter (fun _ => False) 24 [] Tryz.func14 rfl rfl rfl (vs := [.string s, .string x]) (Has.nil _) ?_
  conv => arg 2; arg 2; whnf
  have post : ∀ (f : Fr) (m : Mem) (b : Bool), hasT x.data.toList s.data.toList = b → Rx.look f 4 = some (.bool b) → PJ ⟨24, [], fun _ => False, w⟩ (bodyPost Tryz.prog Tryz.f14 (fun e w' => e = .returned (.bool (hasT x.data.toList s.data.toList)) ∧ Below w.heap.size w w') .ret) f m := fun f m b hb hf => by
    subst hb
    exact ret1 rfl rfl hf (fun w' hw' => ⟨rfl, hw'.2.below (fun k _ h => h) (Nat.le_refl _)⟩)
  repeat' (first | refine cseq ?_ | refine rtext ?_ | refine cblk ?_ | refine jnil ?_ | ((refine jas_ rfl rfl rfl ?_)))
  refine fin (f' := [(0, .string s), (1, .string x), (5, .int .i64 (0 : Nat))]) (m' := [])
    (cloop (ι := Nat) (fun j => [(0, .string s), (1, .string x), (5, .int .i64 (j : Nat))]) (fun _ => []) (fun k j => k = s.size + 1 - j ∧ j ≤ s.size + 1 ∧ hasT x.data.toList s.data.toList = hasT x.data.toList (s.data.toList.drop j) ∧ (x.size = 0 → j = 0)) (s.size + 1) 0 ⟨rfl, by omega, rfl, fun _ => rfl⟩ ?_) ⟨rfl, rfl, rfl, trivial⟩ rfl
  rintro k j ⟨rfl, hj, heq, h0⟩ K hK
  by_cases hlt : j + x.size ≤ s.size
  case neg =>
    repeat' (first | refine cseq ?_ | refine rtext ?_ | refine cfalse rfl ?_ | refine cret ?_ | refine cexit ?_ | refine jnil ?_ | (first | refine jmv rfl rfl rfl ?_ | refine jas_ rfl rfl rfl ?_ | (show Jo _ (.binOp _ _ _ _ _); first | (show Jo _ (.binOp .add _ _ _ _); refine jy (yadd (c := ((j + x.size : Nat) : Int)) rfl rfl (by rw [i64_in (by omega) (by omega)]; omega)) rfl rfl ?_) | refine jy (yleq rfl rfl (by (exact decide_eq_false (by omega)))) rfl rfl ?_) | (show Jo _ (.call _); ((show Jo _ (.call ⟨.builtin .len, _, _⟩); refine jy (ylens rfl und9) rfl rfl ?_)))))
    refine post _ _ false ?_ rfl
    rw [heq, hasT_short _ _ (by rw [List.length_drop, size_list, size_list]; omega)]
  cases hpe : x.data.toList.isPrefixOf (s.data.toList.drop j)
  all_goals
    replace hpe := (piece_eq s x ((j : Nat) : Int).toNat ((j + x.size : Nat) : Int).toNat (by omega)).trans hpe
    repeat' (first | refine cseq ?_ | refine rtext ?_ | refine ctrue rfl ?_ | refine cfalse rfl ?_ | refine cskip ?_ | refine cblk ?_ | refine cret ?_ | refine tnorm ?_ | refine tret ?_ | refine bret ?_ | refine jnil ?_ | (first | refine jmv rfl rfl rfl ?_ | refine jas_ rfl rfl rfl ?_ | (show Jo _ (.binOp _ _ _ _ _); first | (show Jo (some 14) (.binOp .add _ _ _ _); refine jy (yadd (c := ((j + 1 : Nat) : Int)) rfl rfl (by rw [i64_in (by omega) (by omega)]; omega)) rfl rfl ?_) | (show Jo _ (.binOp .add _ _ _ _); refine jy (yadd (c := ((j + x.size : Nat) : Int)) rfl rfl (by rw [i64_in (by omega) (by omega)]; omega)) rfl rfl ?_) | refine jy (yleq rfl rfl (by (exact decide_eq_true (by omega)))) rfl rfl ?_ | (show Jo _ (.binOp .eql 9 _ _ _); refine jy (yseql rfl rfl hpe) rfl rfl ?_)) | (show Jo _ (.slice _ _ _ _ _); refine jy (yslice rfl rfl rfl und9 (by omega) (by omega) (by omega) rfl) rfl rfl ?_) | (show Jo _ (.call _); ((show Jo _ (.call ⟨.builtin .len, _, _⟩); refine jy (ylens rfl und9) rfl rfl ?_)))))
  · have hp := (piece_eq s x ((j : Nat) : Int).toNat ((j + x.size : Nat) : Int).toNat (by omega)).symm.trans hpe
    rw [Int.toNat_natCast] at hp
    have hx0 : x.data.toList ≠ [] := by
      intro e
      rw [e] at hp
      simp at hp
    have hxs : x.size ≠ 0 := by
      intro e
      apply hx0
      rw [← List.length_eq_zero_iff, size_list]
      exact e
    refine fin (hK (s.size + 1 - (j + 1)) (j + 1) (by omega) ⟨rfl, by omega, ?_, fun e => absurd e hxs⟩) ⟨rfl, rfl, rfl, trivial⟩ rfl
    rw [heq, hasT_drop _ _ hx0, hp, Bool.false_or, List.drop_drop]
  · have hp := (piece_eq s x ((j : Nat) : Int).toNat ((j + x.size : Nat) : Int).toNat (by omega)).symm.trans hpe
    rw [Int.toNat_natCast] at hp
    refine post _ _ true ?_ rfl
    rw [heq]
    cases hd : s.data.toList.drop j with
    | nil =>
      rw [hd] at hp
      cases hx : x.data.toList with
      | nil => rfl
      | cons a b => rw [hx] at hp; simp at hp
    | cons c r => rw [hd] at hp; rw [hasT, hp]; rfl
theorem has_in {X : Cx} {m : Mem} {s x : ByteArray} (hs : s.size ≤ 4611686018427387904) (hx : x.size ≤ 4294967296) : ∀ w, Cl X m w → Calls Tryz.prog 14 #[.string s, .string x] w fun e w' => e = .returned (.bool (hasT x.data.toList s.data.toList)) ∧ Cl X m w' :=
  quietC fun w _ => has_calls s x w hs hx
def strs (l : List ByteArray) : List Value := l.map .string
def fits3 (l : List ByteArray) : Bool := decide (l.length ≤ 2147483647) && l.all fun x => decide (x.size ≤ 2147483647)
theorem fits3_len {l : List ByteArray} (h : fits3 l = true) : l.length ≤ 2147483647 := by
  unfold fits3 at h
  simp only [Bool.and_eq_true, decide_eq_true_eq] at h
  exact h.1
theorem fits3_all {l : List ByteArray} (h : fits3 l = true) : ∀ x ∈ l, x.size ≤ 2147483647 := by
  unfold fits3 at h
  simp only [Bool.and_eq_true, decide_eq_true_eq, List.all_eq_true] at h
  exact h.2
theorem und24 : Tryz.prog.underlying 35 = some (.slice 9) := by kernel_rfl
theorem sz9 : szB Tryz.prog 9 1 = true := by kernel_rfl
theorem one9 : oneB Tryz.prog 9 = true := by kernel_rfl
theorem boFit : bodyB Tryz.prog 21 = true := by kernel_rfl
set_option maxHeartbeats 1000000 in
theorem fits3_calls (l : List ByteArray) (v : Value) (w : World) (ha : RowAt nof w v l.length (strs l)) (hl : l.length ≤ 9223372036854775806) :
    Calls Tryz.prog 21 #[v] w fun e w' => e = .returned (.bool (fits3 l)) ∧ Below w.heap.size w w' := by
  obtain ⟨A, c, rfl, ha⟩ := ha
  refine enter (fun _ => False) 18 [] Tryz.func21 rfl rfl rfl (vs := [.slice A l.length c]) (Has.nil _) ?_
  conv => arg 2; arg 2; whnf
  have post : ∀ (f : Fr) (m : Mem), Rx.look f 2 = some (.bool (fits3 l)) → PJ ⟨18, [], fun _ => False, w⟩ (bodyPost Tryz.prog Tryz.f21 (fun e w' => e = .returned (.bool (fits3 l)) ∧ Below w.heap.size w w') .ret) f m := fun f m hf =>
    ret1 rfl rfl hf (fun w' hw' => ⟨rfl, hw'.2.below (fun k _ h => h) (Nat.le_refl _)⟩)
  have no : ¬ fits3 l = true → fits3 l = false := fun h => by simpa using h
  repeat' (first | refine cseq ?_ | refine rtext ?_ | refine ctrue rfl ?_ | refine cfalse rfl ?_ | refine cskip ?_ | refine cblk ?_ | refine cret ?_ | refine tret ?_ | refine jnil ?_ | (first | refine jmv rfl rfl rfl ?_ | refine jas_ rfl rfl rfl ?_ | (show Jo _ (.binOp _ _ _ _ _); refine jgtr rfl rfl rfl rfl (fun hq => ?_) (fun hq => ?_)) | (show Jo _ (.call _); ((show Jo _ (.call ⟨.builtin .len, _, _⟩); refine jy (ylenl rfl und24) rfl rfl ?_)))))
  · exact post _ _ (by rw [no (fun h => by have := fits3_len h; omega)]; rfl)
  refine fin (f' := [(8, .slice A l.length c), (9, .int .i64 l.length), (10, .int .i64 (0 : Nat))]) (m' := [])
    (cloop (ι := Nat) (fun j => [(8, .slice A l.length c), (9, .int .i64 l.length), (10, .int .i64 (j : Nat))]) (fun _ => []) (fun k j => j ≤ l.length ∧ k = l.length - j ∧ ∀ i x, i < j → l[i]? = some x → x.size ≤ 2147483647) l.length 0 ⟨Nat.zero_le _, rfl, fun i x h => absurd h (Nat.not_lt_zero _)⟩ ?_) ⟨rfl, rfl, rfl, trivial⟩ rfl
  rintro k j ⟨hj, rfl, hall⟩ K hK
  by_cases hlt : j < l.length
  · obtain ⟨x, hx⟩ : ∃ x, l[j]? = some x := ⟨_, List.getElem?_eq_getElem hlt⟩
    obtain ⟨ad, rfl, _, hc⟩ := ha j (.string x) (by simp [strs, hx])
    repeat' (first | (show Jo _ (.indexAddr _ _ _); refine jy (yat (p' := ad.add j) rfl rfl und24 sz9 (by omega) (by omega) (by simp)) rfl rfl ?_) | (show Jo _ (.load 9 _); refine jy (yloadw rfl hc (fun h => h) one9) rfl rfl ?_) | first | refine cseq ?_ | refine rtext ?_ | refine ctrue rfl ?_ | refine cfalse rfl ?_ | refine cskip ?_ | refine cblk ?_ | refine cret ?_ | refine tnorm ?_ | refine tret ?_ | refine bret ?_ | refine jnil ?_ | (first | refine jmv rfl rfl rfl ?_ | refine jas_ rfl rfl rfl ?_ | (show Jo _ (.binOp _ _ _ _ _); first | refine jy (yadd (c := ((j + 1 : Nat) : Int)) rfl rfl (by rw [i64_in (by omega) (by omega)]; omega)) rfl rfl ?_ | refine jgtr rfl rfl rfl rfl (fun hq => ?_) (fun hq => ?_) | refine jy (ylss rfl rfl (by (exact decide_eq_true (by omega)))) rfl rfl ?_) | (show Jo _ (.call _); ((show Jo _ (.call ⟨.builtin .len, _, #[9]⟩); refine jy (ylens rfl und9) rfl rfl ?_)))))
    · exact post _ _ (by rw [no (fun h => by have := fits3_all h x (List.mem_of_getElem? hx); omega)]; rfl)
    · exact fin (hK (l.length - (j + 1)) (j + 1) (by omega) ⟨by omega, rfl, fun i y hi hy => by
        rcases Nat.lt_succ_iff_lt_or_eq.1 hi with h | h
        · exact hall i y h hy
        · subst h; rw [hx] at hy; cases hy; omega⟩) ⟨rfl, rfl, rfl, trivial⟩ rfl
  · obtain rfl : j = l.length := by omega
    repeat' (first | refine cseq ?_ | refine rtext ?_ | refine cfalse rfl ?_ | refine cret ?_ | refine cexit ?_ | refine jnil ?_ | (first | refine jas_ rfl rfl rfl ?_ | (show Jo _ (.binOp _ _ _ _ _); refine jy (ylss rfl rfl (by (exact decide_eq_false (by omega)))) rfl rfl ?_)))
    refine post _ _ ?_
    have : fits3 l = true := by
      unfold fits3
      simp only [Bool.and_eq_true, decide_eq_true_eq, List.all_eq_true]
      exact ⟨by omega, fun x hx => by obtain ⟨i, hi⟩ := List.getElem?_of_mem hx; exact hall i x (List.getElem?_eq_some_iff.1 hi).1 hi⟩
    rw [this]; rfl
theorem fits3_in {X : Cx} {m : Mem} {l : List ByteArray} {v : Value} (ha : RowAt nof X.w0 v l.length (strs l)) (hS : ∀ k, X.S k → False) (hl : l.length ≤ 9223372036854775806) : ∀ w, Cl X m w → Calls Tryz.prog 21 #[v] w fun e w' => e = .returned (.bool (fits3 l)) ∧ Cl X m w' :=
  quietC fun w hw => fits3_calls l v w (ha.of_evo hw.2 hS) hl
theorem drop_bt {s : ByteArray} {j : Nat} (h : j < s.size) : ∃ c : UInt8, s.data.toList.drop j = c :: s.data.toList.drop (j + 1) ∧ Rx.bt s (j : Nat) = (c.toNat : Int) := by
  have hl : j < s.data.toList.length := by rw [size_list]; exact h
  refine ⟨s.data.toList[j], List.drop_eq_getElem_cons hl, ?_⟩
  unfold Rx.bt
  rw [dif_pos (by simpa using h)]
  simp only [Int.toNat_natCast, Array.getElem_toList]
  rfl
theorem boAsc : bodyB Tryz.prog 33 = true := by kernel_rfl
set_option maxHeartbeats 1000000 in
theorem ascii_calls (s : ByteArray) (w : World) (hs : s.size ≤ 4611686018427387904) : Calls Tryz.prog 33 #[.string s] w fun e w' => e = .returned (.bool (s.data.toList.all isAsc)) ∧ Below w.heap.size w w' := by
  refine enter (fun _ => False) 32 [] Tryz.func33 rfl rfl rfl (vs := [.string s]) (Has.nil _) ?_
  conv => arg 2; arg 2; whnf
  have post : ∀ (f : Fr) (m : Mem) (b : Bool), s.data.toList.all isAsc = b → Rx.look f 2 = some (.bool b) → PJ ⟨32, [], fun _ => False, w⟩ (bodyPost Tryz.prog Tryz.f33 (fun e w' => e = .returned (.bool (s.data.toList.all isAsc)) ∧ Below w.heap.size w w') .ret) f m := fun f m b hb hf => by
    subst hb
    exact ret1 rfl rfl hf (fun w' hw' => ⟨rfl, hw'.2.below (fun k _ h => h) (Nat.le_refl _)⟩)
  repeat' (first | refine cseq ?_ | refine rtext ?_ | refine cblk ?_ | refine jnil ?_ | ((refine jas_ rfl rfl rfl ?_)))
  refine fin (f' := [(0, .string s), (3, .int .i64 (0 : Nat))]) (m' := [])
    (cloop (ι := Nat) (fun j => [(0, .string s), (3, .int .i64 (j : Nat))]) (fun _ => []) (fun k j => k = s.size - j ∧ j ≤ s.size ∧ s.data.toList.all isAsc = (s.data.toList.drop j).all isAsc) s.size 0 ⟨rfl, by omega, rfl⟩ ?_) ⟨rfl, rfl, trivial⟩ rfl
  rintro k j ⟨rfl, hj, heq⟩ K hK
  by_cases hlt : j < s.size
  case neg =>
    obtain rfl : j = s.size := by omega
    rw [List.drop_eq_nil_of_le (by rw [size_list]; exact Nat.le_refl _)] at heq
    repeat' (first | refine cseq ?_ | refine rtext ?_ | refine cfalse rfl ?_ | refine cret ?_ | refine cexit ?_ | refine jnil ?_ | (first | refine jmv rfl rfl rfl ?_ | refine jas_ rfl rfl rfl ?_ | (show Jo _ (.binOp _ _ _ _ _); refine jy (ylss rfl rfl (by (exact decide_eq_false (by omega)))) rfl rfl ?_) | (show Jo _ (.call _); ((show Jo _ (.call ⟨.builtin .len, _, _⟩); refine jy (ylens rfl und9) rfl rfl ?_)))))
    exact post _ _ true heq rfl
  obtain ⟨c, hd, hb⟩ := drop_bt hlt
  rw [hd, List.all_cons] at heq
  have hT : 32 ≤ c.toNat ∧ c.toNat ≤ 126 ∨ c.toNat = 10 ∨ c.toNat = 9 → isAsc c = true := by
    intro h
    unfold isAsc
    rcases h with ⟨h1, h2⟩ | h | h
    · simp [h1, h2]
    · simp [h]
    · simp [h]
  have hF : ¬ (32 ≤ c.toNat ∧ c.toNat ≤ 126 ∨ c.toNat = 10 ∨ c.toNat = 9) → isAsc c = false := by
    intro h
    unfold isAsc
    simp
    omega
  repeat' (first | refine cseq ?_ | refine rtext ?_ | refine ctrue rfl ?_ | refine cfalse rfl ?_ | refine cskip ?_ | refine cblk ?_ | refine cret ?_ | refine tnorm ?_ | refine tret ?_ | refine bret ?_ | refine jnil ?_ | (first | refine js rfl rfl ?_ | refine jmv rfl rfl rfl ?_ | refine jas_ rfl rfl rfl ?_ | (show Jo _ (.binOp _ _ _ _ _); first | refine jy (yadd (c := ((j + 1 : Nat) : Int)) rfl rfl (by rw [i64_in (by omega) (by omega)]; omega)) rfl rfl ?_ | (show Jo _ (.binOp .gtr _ _ _ _); refine jgtr rfl rfl rfl rfl (fun hq => ?_) (fun hq => ?_)) | (show Jo _ (.binOp .neq _ _ _ _); refine jneq rfl rfl rfl rfl (fun hq => ?_) (fun hq => ?_)) | refine jy (ylss rfl rfl (by (exact decide_eq_true (by omega)))) rfl rfl ?_ | refine jlss rfl rfl rfl rfl (fun hq => ?_) (fun hq => ?_)) | (show Jo _ (.pick _ _ _); first | refine jy (ypick1 rfl rfl) rfl rfl ?_ | refine jy (ypick0 rfl rfl) rfl rfl ?_) | (show Jo _ (.index _ _ _); refine jy (yidx (c := bt _ _) rfl rfl und9 (by omega) (by omega) rfl) rfl rfl ?_) | (show Jo _ (.call _); ((show Jo _ (.call ⟨.builtin .len, _, _⟩); refine jy (ylens rfl und9) rfl rfl ?_)))))
  all_goals first
    | exact post _ _ false (by rw [heq, hF (by omega)]; simp) rfl
    | exact fin (hK (s.size - (j + 1)) (j + 1) (by omega) ⟨rfl, by omega, by rw [heq, hT (by omega), Bool.true_and]⟩) ⟨rfl, rfl, trivial⟩ rfl
theorem ascii_in {X : Cx} {m : Mem} {s : ByteArray} (hs : s.size ≤ 4611686018427387904) : ∀ w, Cl X m w → Calls Tryz.prog 33 #[.string s] w fun e w' => e = .returned (.bool (s.data.toList.all isAsc)) ∧ Cl X m w' :=
  quietC fun w _ => ascii_calls s w hs

theorem boPw : bodyB Tryz.prog 82 = true := by kernel_rfl
theorem boPh : bodyB Tryz.prog 83 = true := by kernel_rfl
theorem boPs : bodyB Tryz.prog 81 = true := by kernel_rfl
theorem boSp : bodyB Tryz.prog 64 = true := by kernel_rfl
theorem grS : growB Tryz.prog 35 9 1 16 = true := by kernel_rfl
theorem isSp_eq {c : Nat} {b : Bool} (h : b = true ↔ (c = 32 ∨ 9 ≤ c ∧ c ≤ 13)) : b = Lex0.isSp c := by
  rw [Bool.eq_iff_iff, h]
  unfold Lex0.isSp
  simp only [Bool.or_eq_true, beq_iff_eq]
  omega
theorem pageWhite_calls (c : Nat) (w : World) : Calls Tryz.prog 82 #[.int .u8 (c : Nat)] w fun e w' => e = .returned (.bool (Lex0.isSp c)) ∧ Below w.heap.size w w' := by
  refine enter (fun _ => False) 13 [] Tryz.func82 rfl rfl rfl (vs := [.int .u8 (c : Nat)]) (Has.nil _) ?_
  conv => arg 2; arg 2; whnf
  have post : ∀ (f : Fr) (m : Mem) (b : Bool), (b = true ↔ (c = 32 ∨ 9 ≤ c ∧ c ≤ 13)) → Rx.look f 2 = some (.bool b) → PJ ⟨13, [], fun _ => False, w⟩ (bodyPost Tryz.prog Tryz.f82 (fun e w' => e = .returned (.bool (Lex0.isSp c)) ∧ Below w.heap.size w w') .ret) f m := fun f m b hb hf =>
    ret1 rfl rfl hf (fun w' hw' => ⟨by rw [isSp_eq hb], hw'.2.below (fun k _ h => h) (Nat.le_refl _)⟩)
  repeat' (first | refine cseq ?_ | refine rtext ?_ | refine cret ?_ | refine jnil ?_ | (first | refine js rfl rfl ?_ | refine jmv rfl rfl rfl ?_ | refine jas_ rfl rfl rfl ?_ | (show Jo _ (.binOp _ _ _ _ _); first | (show Jo _ (.binOp .leq _ _ _ _); refine jleq rfl rfl rfl rfl (fun hq => ?_) (fun hq => ?_)) | refine jeql rfl rfl rfl rfl (fun hq => ?_) (fun hq => ?_) | refine jgeq rfl rfl rfl rfl (fun hq => ?_) (fun hq => ?_)) | (show Jo _ (.pick _ _ _); first | refine jy (ypick1 rfl rfl) rfl rfl ?_ | refine jy (ypick0 rfl rfl) rfl rfl ?_)))
  all_goals first
    | exact post _ _ true (by simp only [true_iff]; omega) rfl
    | exact post _ _ false (by simp only [Bool.false_eq_true, false_iff]; omega) rfl
theorem pageHas_calls (s x : ByteArray) (i : Nat) (w : World) (hs : s.size ≤ 4611686018427387904) (hi : i < s.size) (hx : x.size ≤ 4) (hne : i + x.size ≤ s.size → ¬ s.extract ((i : Nat) : Int).toNat ((i + x.size : Nat) : Int).toNat = x) :
    Calls Tryz.prog 83 #[.string s, .int .i64 (i : Nat), .string x] w fun e w' => e = .returned (.bool false) ∧ Below w.heap.size w w' := by
  refine enter (fun _ => False) 29 [] Tryz.func83 rfl rfl rfl (vs := [.string s, .int .i64 (i : Nat), .string x]) (Has.nil _) ?_
  conv => arg 2; arg 2; whnf
  repeat' (first | refine cseq ?_ | refine rtext ?_ | refine cret ?_ | refine jnil ?_ | (first | refine js rfl rfl ?_ | refine jmv rfl rfl rfl ?_ | refine jas_ rfl rfl rfl ?_ | (show Jo _ (.binOp _ _ _ _ _); first | (show Jo _ (.binOp .add _ _ _ _); refine jy (yadd (c := ((i + x.size : Nat) : Int)) rfl rfl (by rw [i64_in (by omega) (by omega)]; omega)) rfl rfl ?_) | (show Jo _ (.binOp .leq _ _ _ _); refine jleq rfl rfl rfl rfl (fun hq => ?_) (fun hq => ?_)) | (show Jo _ (.binOp .eql 9 _ _ _); refine jy (yseql (c := false) rfl rfl (decide_eq_false (hne (by omega)))) rfl rfl ?_) | refine jy (ygeq rfl rfl (by (exact decide_eq_true (by omega)))) rfl rfl ?_) | (show Jo _ (.pick _ _ _); first | refine jy (ypick1 rfl rfl) rfl rfl ?_ | refine jy (ypick0 rfl rfl) rfl rfl ?_) | (show Jo _ (.slice _ _ _ _ _); refine jy (yslice rfl rfl rfl und9 (by omega) (by omega) (by omega) rfl) rfl rfl ?_) | (show Jo _ (.call _); ((show Jo _ (.call ⟨.builtin .len, _, #[9]⟩); refine jy (ylens rfl und9) rfl rfl ?_)))))
  all_goals exact ret1 rfl rfl rfl (fun w' hw' => ⟨rfl, hw'.2.below (fun k _ h => h) (Nat.le_refl _)⟩)
def wideT : List (List UInt8) := [[194, 133], [194, 160], [225, 154, 128], [226, 128, 128], [226, 128, 129], [226, 128, 130], [226, 128, 131], [226, 128, 132], [226, 128, 133], [226, 128, 134], [226, 128, 135], [226, 128, 136], [226, 128, 137], [226, 128, 138], [226, 128, 168], [226, 128, 169], [226, 128, 175], [226, 129, 159], [227, 128, 128]]
def wides : List ByteArray := wideT.map Lex0.ba
theorem pageSpaces_in {X : Cx} {m : Mem} : ∀ w, Cl X m w → Calls Tryz.prog 81 #[] w fun e w' => ∃ g, e = .returned (.slice (some ⟨g, 0, none⟩) 19 19) ∧ Cl X ((g, strs wides, .c 9) :: m) w' ∧ True := by
  intro w hw
  refine enterC 2 hw Tryz.func81 rfl rfl (vs := []) rfl ?_
  conv => arg 2; arg 2; whnf
  repeat' (first | refine cseq ?_ | refine rtext ?_ | refine cret ?_ | refine jnil ?_ | (first | refine jas_ rfl rfl rfl ?_ | (show Jo _ (.buildSlice _ _ _); refine jlitN (vs := strs wides) (n := 19) (c := strs wides) rfl rfl rfl rfl grS rfl rfl rfl rfl (fun g hg => ?_))))
  exact ret1 rfl rfl rfl (fun w' hw' => ⟨g, rfl, hw.up hw', trivial⟩)
theorem add_at (g j : Nat) : (⟨g, 0, none⟩ : Addr).add (((j : Nat) : Int).toNat * 1) = ⟨g, j, none⟩ := by
  unfold Addr.add
  rw [Int.toNat_natCast, Nat.mul_one]
  by_cases h : j = 0
  · rw [if_pos h, h]
  · rw [if_neg h]
    dsimp only
    rw [Nat.zero_add]
theorem wide_at : ∀ t ∈ wideT, t.length ≤ 4 ∧ ∃ c, t.head? = some c ∧ 128 ≤ c.toNat := by
  intro t ht
  have h : wideT.all (fun t => decide (t.length ≤ 4) && (match t.head? with | none => false | some c => decide (128 ≤ c.toNat))) = true := by decide
  have := List.all_eq_true.1 h t ht
  simp only [Bool.and_eq_true, decide_eq_true_eq] at this
  refine ⟨this.1, ?_⟩
  cases t with
  | nil => exact absurd this.2 (by simp)
  | cons c t => exact ⟨c, rfl, by simpa using this.2⟩
theorem wide_ok {s x : ByteArray} {j i : Nat} (hx : wides[j]? = some x) (ha : ∀ c ∈ s.data.toList, c.toNat < 128) : x.size ≤ 4 ∧ (i + x.size ≤ s.size → ¬ s.extract ((i : Nat) : Int).toNat ((i + x.size : Nat) : Int).toNat = x) := by
  obtain ⟨t, ht, rfl⟩ := List.mem_map.1 (List.mem_of_getElem? hx)
  have h1 : t.length ≤ 4 ∧ ∃ c, t.head? = some c ∧ 128 ≤ c.toNat := wide_at t ht
  obtain ⟨h1, c, h2, h3⟩ := h1
  have hsz : (Lex0.ba t).size = t.length := rfl
  refine ⟨by rw [hsz]; exact h1, fun hi e => ?_⟩
  have hc : c ∈ (Lex0.ba t).data.toList := by
    show c ∈ t
    cases t with
    | nil => cases h2
    | cons a t => cases h2; exact List.mem_cons_self ..
  rw [← e, ext_list] at hc
  have := ha c (List.mem_of_mem_drop (List.mem_of_mem_take hc))
  omega
set_option maxHeartbeats 1000000 in
theorem pageSpace_calls (s : ByteArray) (w : World) (hs : s.size ≤ 4611686018427387904) (ha : ∀ c ∈ s.data.toList, c.toNat < 128) : Calls Tryz.prog 64 #[.string s] w fun e w' => e = .returned (.bool (Lex0.isSpT s.data.toList)) ∧ Below w.heap.size w w' := by
  refine enter (fun _ => False) 38 [] Tryz.func64 rfl rfl rfl (vs := [.string s]) (Has.nil _) ?_
  conv => arg 2; arg 2; whnf
  have post : ∀ (f : Fr) (m : Mem) (b : Bool), Lex0.isSpT s.data.toList = b → Rx.look f 2 = some (.bool b) → PJ ⟨38, [], fun _ => False, w⟩ (bodyPost Tryz.prog Tryz.f64 (fun e w' => e = .returned (.bool (Lex0.isSpT s.data.toList)) ∧ Below w.heap.size w w') .ret) f m := fun f m b hb hf => by
    subst hb
    exact ret1 rfl rfl hf (fun w' hw' => ⟨rfl, hw'.2.below (fun k _ h => h) (Nat.le_refl _)⟩)
  repeat' ((fail_if_success (show PJ _ (Code.wp _ (Code.loop _) _) _ _)); first | first | refine cseq ?_ | refine rtext ?_ | refine cblk ?_ | refine jnil ?_ | (first | refine jas_ rfl rfl rfl ?_ | (show Jo _ (.call _); ((show Jo _ (.call ⟨.value (.func 81), _, _⟩); refine jcall (ι := Nat) (v := fun g => .slice (some ⟨g, 0, none⟩) 19 19) (m' := fun g => (g, strs wides, .c 9) :: []) (fun _ => True) boPs rfl rfl rfl pageSpaces_in (fun g _ => ?_))))))
  refine fin (f' := [(0, .string s), (3, .slice (some ⟨g, 0, none⟩) 19 19), (4, .int .i64 (0 : Nat))]) (m' := [(g, strs wides, .c 9)])
    (cloop (ι := Nat) (fun i => [(0, .string s), (3, .slice (some ⟨g, 0, none⟩) 19 19), (4, .int .i64 (i : Nat))]) (fun _ => [(g, strs wides, .c 9)]) (fun k i => k = s.size - i ∧ i ≤ s.size ∧ Lex0.isSpT s.data.toList = Lex0.isSpT (s.data.toList.drop i)) s.size 0 ⟨rfl, by omega, rfl⟩ ?_) ⟨rfl, rfl, rfl, trivial⟩ rfl
  rintro k i ⟨rfl, hj, heq⟩ K hK
  by_cases hlt : i < s.size
  case neg =>
    obtain rfl : i = s.size := by omega
    rw [List.drop_eq_nil_of_le (by rw [size_list]; exact Nat.le_refl _)] at heq
    repeat' (first | refine cseq ?_ | refine rtext ?_ | refine cfalse rfl ?_ | refine cret ?_ | refine cexit ?_ | refine jnil ?_ | (first | refine jmv rfl rfl rfl ?_ | refine jas_ rfl rfl rfl ?_ | (show Jo _ (.binOp _ _ _ _ _); refine jy (ylss rfl rfl (by (exact decide_eq_false (by omega)))) rfl rfl ?_) | (show Jo _ (.call _); ((show Jo _ (.call ⟨.builtin .len, _, #[9]⟩); refine jy (ylens rfl und9) rfl rfl ?_)))))
    exact post _ _ true heq rfl
  obtain ⟨c, hd, hbt⟩ := drop_bt hlt
  rw [hd] at heq
  have heq' : Lex0.isSpT s.data.toList = (Lex0.isSp c.toNat && Lex0.isSpT (s.data.toList.drop (i + 1))) := heq
  cases hc : Lex0.isSp c.toNat
  · rw [hc, Bool.false_and] at heq'
    repeat' ((fail_if_success (show PJ _ (Code.wp _ (Code.loop _) _) _ _)); first | (show Jo _ (.call ⟨.value (.func 82), _, _⟩); refine jcallq (v := .bool false) boPw rfl rfl rfl (quietC fun w _ => by rw [hbt, ← hc]; exact pageWhite_calls c.toNat w) ?_) | first | refine cseq ?_ | refine rtext ?_ | refine ctrue rfl ?_ | refine cfalse rfl ?_ | refine cskip ?_ | refine cblk ?_ | refine jnil ?_ | (first | refine jmv rfl rfl rfl ?_ | refine jas_ rfl rfl rfl ?_ | (show Jo _ (.binOp _ _ _ _ _); refine jy (ylss rfl rfl (by (exact decide_eq_true (by omega)))) rfl rfl ?_) | (show Jo _ (.index _ _ _); refine jy (yidx (c := bt _ _) rfl rfl und9 (by omega) (by omega) rfl) rfl rfl ?_) | (show Jo _ (.call _); first | (show Jo _ (.call ⟨.builtin .len, _, #[9]⟩); refine jy (ylens rfl und9) rfl rfl ?_) | (show Jo _ (.call ⟨.builtin .len, _, _⟩); refine jy (ylenl rfl und24) rfl rfl ?_))))
    refine fin (f' := [(0, .string s), (3, .slice (some ⟨g, 0, none⟩) 19 19), (4, .int .i64 (i : Nat)), (5, .int .i64 (0 : Nat)), (19, .slice (some ⟨g, 0, none⟩) 19 19), (20, .int .i64 (19 : Nat)), (21, .int .i64 (0 : Nat))]) (m' := [(g, strs wides, .c 9)])
      (cloop (ι := Nat) (fun j => [(0, .string s), (3, .slice (some ⟨g, 0, none⟩) 19 19), (4, .int .i64 (i : Nat)), (5, .int .i64 (0 : Nat)), (19, .slice (some ⟨g, 0, none⟩) 19 19), (20, .int .i64 (19 : Nat)), (21, .int .i64 (j : Nat))]) (fun _ => [(g, strs wides, .c 9)]) (fun k j => k = 19 - j ∧ j ≤ 19) 19 0 ⟨rfl, by omega⟩ ?_) ⟨rfl, rfl, rfl, rfl, rfl, rfl, rfl, trivial⟩ rfl
    rintro k2 j ⟨rfl, hj2⟩ K2 hK2
    by_cases hl2 : j < 19
    case neg =>
      obtain rfl : j = 19 := by omega
      repeat' (first | refine cseq ?_ | refine rtext ?_ | refine ctrue rfl ?_ | refine cfalse rfl ?_ | refine cret ?_ | refine cexit ?_ | refine tret ?_ | refine bret ?_ | refine jnil ?_ | (first | refine jmv rfl rfl rfl ?_ | refine jas_ rfl rfl rfl ?_ | (show Jo _ (.binOp _ _ _ _ _); first | refine jy (ylss rfl rfl (by (exact decide_eq_false (by omega)))) rfl rfl ?_ | refine jy (yeql rfl rfl (by (exact decide_eq_true (by omega)))) rfl rfl ?_)))
      exact post _ _ false heq' rfl
    obtain ⟨x, hx⟩ : ∃ x, wides[j]? = some x := ⟨_, List.getElem?_eq_getElem (by exact hl2)⟩
    have hxv : nth (strs wides) j = some (.string x) := by rw [nth_eq, strs, List.getElem?_map, hx]; rfl
    repeat' (first | refine cseq ?_ | refine rtext ?_ | refine ctrue rfl ?_ | refine cfalse rfl ?_ | refine cskip ?_ | refine cblk ?_ | refine tnorm ?_ | refine jnil ?_ | (first | refine jmv rfl rfl rfl ?_ | (show Jo _ (.load _ _); refine jy (yload (i := 0) (v := .string x) rfl rfl hxv one9) rfl rfl ?_) | refine jas_ rfl rfl rfl ?_ | (show Jo _ (.binOp _ _ _ _ _); first | (show Jo (some 31) (.binOp .add _ _ _ _); refine jy (yadd (c := ((j + 1 : Nat) : Int)) rfl rfl (by rw [i64_in (by omega) (by omega)]; omega)) rfl rfl ?_) | refine jy (ylss rfl rfl (by (exact decide_eq_true (by omega)))) rfl rfl ?_) | (show Jo _ (.call _); ((show Jo _ (.call ⟨.value (.func 83), _, _⟩); refine jcallq boPh rfl rfl rfl (quietC fun w _ => pageHas_calls s x i w hs hlt (wide_ok (i := i) hx ha).1 (wide_ok hx ha).2) ?_))) | (show Jo _ (.indexAddr _ _ _); refine jy (yat (p' := ⟨g, j, none⟩) rfl rfl und24 sz9 (by omega) (by omega) (add_at g j)) rfl rfl ?_)))
    exact fin (hK2 (19 - (j + 1)) (j + 1) (by omega) ⟨rfl, by omega⟩) ⟨rfl, rfl, rfl, rfl, rfl, rfl, rfl, trivial⟩ rfl
  · rw [hc, Bool.true_and] at heq'
    repeat' (first | (show Jo _ (.call ⟨.value (.func 82), _, _⟩); refine jcallq (v := .bool true) boPw rfl rfl rfl (quietC fun w _ => by rw [hbt, ← hc]; exact pageWhite_calls c.toNat w) ?_) | first | refine cseq ?_ | refine rtext ?_ | refine ctrue rfl ?_ | refine cskip ?_ | refine cblk ?_ | refine cexit ?_ | refine tnorm ?_ | refine jnil ?_ | (first | refine jmv rfl rfl rfl ?_ | refine jas_ rfl rfl rfl ?_ | (show Jo _ (.binOp _ _ _ _ _); first | (show Jo _ (.binOp .add _ _ _ _); refine jy (yadd (c := ((i + 1 : Nat) : Int)) rfl rfl (by rw [i64_in (by omega) (by omega)]; omega)) rfl rfl ?_) | refine jy (ylss rfl rfl (by (exact decide_eq_true (by omega)))) rfl rfl ?_) | (show Jo _ (.index _ _ _); refine jy (yidx (c := bt _ _) rfl rfl und9 (by omega) (by omega) rfl) rfl rfl ?_) | (show Jo _ (.call _); ((show Jo _ (.call ⟨.builtin .len, _, #[9]⟩); refine jy (ylens rfl und9) rfl rfl ?_)))))
    exact fin (hK (s.size - (i + 1)) (i + 1) (by omega) ⟨rfl, by omega, heq'⟩) ⟨rfl, rfl, rfl, trivial⟩ rfl
end Go.Proofs.YtkehggbmpdacpacGreatDoor.Lw
