/- The page laws: texts that all of them use, joined (part 14): Pg52, Pg53, Lex8, Pg54, Pg55, Pg56, Pg57, LwHas, LwFits, LwAsc, LwNm, Sp1, Pg58, Pg59, Pl1, Pg60, Pg61, PgT, LwQt, PgL, WWords, WSized, Row0, LwK. -/
import Derived.Test.YtkehggbmpdacpaaGreatDoorProg
import Derived.Test.YtkehggbmpdacpaaGreatDoorRows
import Derived.PinnedBridge
import Derived.LaidMore
import Derived.MakeChecks
import Derived.Lib.LaidRTab
import Derived.Lib.LaidU8T
import Derived.Lib.LaidTab
import Derived.Below
import Derived.Deep.Draws
import Derived.Deep.AppendLies
import Derived.Maps.AppendAt
import Derived.OwnWalk
import Derived.Laws.BytesArg
import Derived.Laws.MakeOwn
import Derived.Laws.OwnMore
import Derived.Deep.OwnRows
import Derived.Tactics
import Derived.Lib.ConvBytes
import Derived.Laws.Slices
import Derived.WalkKit
import Derived.KernelRfl
import Derived.RowKit3
import Derived.Deep.LoopGhost
import Derived.Deep.QuietTactic
import Derived.BigQuiet
import Derived.WideLaws
import Derived.Deep.DeepCutAuto
import Derived.Deep.CutBlock
import Derived.Deep.RegionHeld3
import Derived.Laws.Rows
import Derived.Lib.AppendStr
import Derived.ArgAppend
import Derived.Laws.IdiomCopy
import Derived.RowKit
import Derived.SizedLaws
import Derived.ChangeSlices
import Derived.SliceStrings
import Derived.ChangeAt
import Derived.ProofKit
import Derived.ShutString
import Derived.ChangeOld
import Derived.Test.YtkehggbmpdacpaaGreatDoorKp0
import Derived.Test.YtkehggbmpdacpaaGreatDoorKp1
import Derived.Test.YtkehggbmpdacpaaGreatDoorKp9
import Derived.Test.YtkehggbmpdacpaaGreatDoorKp10
import Derived.Test.YtkehggbmpdacpaaGreatDoorKp12
import Derived.Test.YtkehggbmpdacpaaGreatDoorKp13
set_option maxRecDepth 100000
set_option linter.unusedVariables false
set_option linter.unusedSimpArgs false
set_option linter.unusedSectionVars false
namespace Go.Proofs.YtkehggbmpdacpaaGreatDoor.Pg
open Go.Rx hiding bt
open Go.RowKit Go.Proofs.YtkehggbmpdacpaaGreatDoor.Dec0 Go.Proofs.YtkehggbmpdacpaaGreatDoor.Lex0
theorem bo16 : bodyB Tryz.prog 16 = true := by kernel_rfl
@[reducible] def hdP (bs : ByteArray) (fr dv : Bool) (g cap : Nat) (r : List Value) : Hd := ⟨0, g, 0, 0, cap, bs.data.toList, r, .nilFunc, !fr, !dv⟩
set_option maxHeartbeats 1000000 in
theorem parse_calls {w : World} (hT : Tab w) (bs : ByteArray) (fr dv : Bool) (hbig : bs.data.toList.length ≤ 4294967296) (l : List Itm) (hl : l = parse envT bs.data.toList fr dv) (hll : l.length ≤ 1000000000000) (hin : ∀ it ∈ l, InI bs.data.toList it) :
    Calls Tryz.prog 16 #[.string bs, .bool fr, .bool dv] w fun e w' => ∃ r : Row, e = .returned (r.val l.length) ∧ Has (r.mem (tisC bs.data.toList l) 42) w' ∧ r.ok w.heap.size 5 l.length (tisC bs.data.toList l) ∧ Below w.heap.size w w' := by
  refine enter (fun _ => False) 12 [] Tryz.func16 rfl rfl rfl (vs := [.string bs, .bool fr, .bool dv]) (Has.nil _) ?_
  have hW : ∃ W, Bs W ⟨12, [], fun _ => False, w⟩ ∧ Tab W := ⟨w, ⟨Below.refl _ _, fun k h => h.elim⟩, hT⟩
  conv => arg 2; arg 2; whnf
  repeat' (first | refine cseq ?_ | refine rtext ?_ | refine cret ?_ | refine jnil ?_ | (first | refine jmv rfl rfl rfl ?_ | refine jas_ rfl rfl rfl ?_ | (show Jo _ (.call _); ((show Jo _ (.call ⟨.value (.func 38), _, _⟩); refine jcall (ι := Row) (vs := [.slice (some ⟨g, 0, none⟩) bs.size cap, .bool fr, .bool dv]) _ bo38 rfl rfl rfl (fun w' hw' => (items_calls (H1 := hdP bs fr dv g cap rr) fr dv rfl rfl hW hcap hbig l hl hll hin w' hw').mono fun e w'' ⟨r, h1, h2, h3⟩ => ⟨r, h1, h2, h3⟩) (fun r hr => ?_)))) | (show Jo _ (.convert _ _ _); refine jbytes rfl und9' und59 und5' rfl (fun g cap rr hg hcap => ?_))))
  exact ret1 rfl rfl rfl (fun w' hw' => ⟨r, rfl, hw'.1, hr, hw'.2.below (fun k _ h => h) (Nat.le_refl _)⟩)
theorem al_ascii : ∀ k : Fin 128, alU (k.val : Int) = isW (UInt8.ofNat k.val) := by decide +kernel
theorem ea_env : EA envT := ⟨fun c hc => by
  have := al_ascii ⟨c.toNat, hc⟩
  rw [show UInt8.ofNat (⟨c.toNat, hc⟩ : Fin 128).val = c from UInt8.ofNat_toNat] at this
  exact this, env_al⟩
end Go.Proofs.YtkehggbmpdacpaaGreatDoor.Pg
namespace Go.Proofs.YtkehggbmpdacpaaGreatDoor.Pg
open Go.Proofs.YtkehggbmpdacpaaGreatDoor.Dec0 Go.Proofs.YtkehggbmpdacpaaGreatDoor.Lex0
def AllIn (s : T) (x : Lx) : Prop := ∀ it ∈ x.items, InI s it
theorem in_mk {s : T} {it : Itm} (hs : it.segs = []) (h1 : it.low ≤ it.high) (h2 : it.high ≤ s.length) : InI s it := ⟨fun _ => ⟨h1, h2⟩, by rw [hs]; exact Nat.zero_le _, by rw [hs]; exact Nat.zero_le _⟩
theorem in_app {s : T} {x y : Lx} {k : List Itm} (h : AllIn s x) (hy : y.items = x.items ++ k) (hk : ∀ it ∈ k, InI s it) : AllIn s y := fun it hi => by
  rw [hy] at hi
  rcases List.mem_append.1 hi with h' | h'
  · exact h it h'
  · exact hk it h'
theorem in_same {s : T} {x y : Lx} (h : AllIn s x) (hy : y.items = x.items) : AllIn s y := fun it hi => h it (by rw [← hy]; exact hi)
theorem in_emit {s : T} {x : Lx} {t : Nat} (h : AllIn s x) (h1 : x.start ≤ x.pos) (h2 : x.pos ≤ s.length) : AllIn s (emit t x) := in_app h rfl fun it hi => by
  rw [List.mem_singleton.1 hi]
  exact in_mk rfl h1 h2
theorem in_emitS {s : T} {x : Lx} {t : Nat} (h : AllIn s x) (h1 : x.start ≤ x.pos) (h2 : x.pos ≤ s.length) : AllIn s (emitS t x) := in_app h rfl fun it hi => by
  rw [List.mem_singleton.1 hi]
  exact in_mk rfl h1 h2
theorem in_err {s : T} {x : Lx} (h : AllIn s x) (h1 : x.start ≤ x.pos) (h2 : x.pos ≤ s.length) : AllIn s (errI x) := in_app h rfl fun it hi => by
  rw [List.mem_singleton.1 hi]
  exact in_mk rfl h1 h2
theorem in_txts {s : T} {a b : Nat} (h1 : a ≤ b) (h2 : b ≤ s.length) : ∀ it ∈ txts s a b, InI s it := by
  have hk : ((cut s a b).reverse.takeWhile isBl).length ≤ b - a := by
    have := (List.takeWhile_sublist isBl (l := (cut s a b).reverse)).length_le
    rw [List.length_reverse, cut_len h2] at this
    exact this
  unfold txts
  dsimp only
  generalize ((cut s a b).reverse.takeWhile isBl).length = k at hk ⊢
  intro it hi
  split at hi
  · rw [List.mem_singleton.1 hi]; exact in_mk rfl h1 h2
  · split at hi
    · simp only [List.mem_cons, List.not_mem_nil, or_false] at hi
      rcases hi with rfl | rfl
      · exact in_mk rfl (by dsimp only [mk]; omega) (by dsimp only [mk]; omega)
      · exact in_mk rfl (by dsimp only [mk]; omega) (by dsimp only [mk]; omega)
    · rw [List.mem_singleton.1 hi]; exact in_mk rfl h1 h2
theorem in_emitT {s : T} {x : Lx} (h : AllIn s x) (h1 : x.start ≤ x.pos) (h2 : x.pos ≤ s.length) : AllIn s (emitT s x) := in_app h rfl (in_txts h1 h2)
theorem segs_in {n : Nat} : ∀ (l : T) (a k i : Nat), a ≤ k → k ≤ i → i + l.length ≤ n → SegCh n a (segsL l k i) ∧ (segsL l k i).length ≤ l.length + (if k < i then 1 else 0)
  | [], a, k, i, h1, h2, h3 => by
    unfold segsL
    have h3 : i ≤ n := by simpa using h3
    split
    · exact ⟨⟨h1, h2, h3⟩, by simp⟩
    · exact ⟨show a ≤ n by omega, by simp⟩
  | c :: r, a, k, i, h1, h2, h3 => by
    rw [List.length_cons] at h3 ⊢
    unfold segsL
    split
    · split
      · have h := segs_in (n := n) r i (i + 1) (i + 1) (Nat.le_succ _) (Nat.le_refl _) (by omega)
        rw [if_neg (Nat.lt_irrefl _)] at h
        exact ⟨⟨h1, h2, h.1⟩, by rw [List.length_cons]; omega⟩
      · have h := segs_in (n := n) r a (i + 1) (i + 1) (by omega) (Nat.le_refl _) (by omega)
        rw [if_neg (Nat.lt_irrefl _)] at h
        exact ⟨h.1, by omega⟩
    · have h := segs_in (n := n) r a k (i + 1) h1 (by omega) (by omega)
      rw [if_pos (by omega)] at h
      refine ⟨h.1, ?_⟩
      have := h.2
      split <;> omega
theorem in_emitE {s : T} {x : Lx} {t : Nat} (h : AllIn s x) (h1 : x.start ≤ x.pos) (h2 : x.pos ≤ s.length) : AllIn s (emitE t s x) := by
  have hs := segs_in (n := s.length) (cut s x.start x.pos) 0 x.start x.start (Nat.zero_le _) (Nat.le_refl _) (by rw [cut_len h2]; omega)
  rw [if_neg (Nat.lt_irrefl _), cut_len h2] at hs
  unfold emitE
  split
  · exact in_same h rfl
  · rename_i hne
    refine in_app h rfl fun it hi => ?_
    rw [List.mem_singleton.1 hi]
    exact ⟨fun he => absurd he hne, hs.1, Nat.le_trans hs.2 (by omega)⟩
theorem in_qEnd {s : T} {x : Lx} (h : AllIn s x) : AllIn s (qEnd s x) := by
  unfold qEnd
  split <;> exact in_same h rfl
section
variable {E : Env} {s : T} {dv : Bool} {x : Lx} (hp : x.pos ≤ s.length) (hs : x.start ≤ x.pos) (hA : AllIn s x)
include hp hs hA
omit hp in
theorem fail_in (n : Nat) (hn : x.pos + n ≤ s.length) : AllIn s (fail (mv n x)).1 := in_err (x := mv n x) (in_same hA rfl) (Nat.le_trans hs (Nat.le_add_right _ _)) hn
theorem done_in : AllIn s (done s x).1 := by
  unfold done
  split
  · exact in_emit (x := emitT s x) (in_emitT hA hs hp) (Nat.le_refl _) hp
  · exact in_emit hA hs hp
theorem left_in (hh : Here E s .left x) : AllIn s (left s x).1 := by
  have h3 := Lex0.pre_len (show (if x.md then lmd else lno : T).isPrefixOf (s.drop x.pos) = true from hh)
  rw [lf3, List.length_drop] at h3
  unfold left
  split
  · exact in_same hA rfl
  · exact in_same (in_emit (x := mv 3 x) (t := if x.md then 10 else 8) (in_same hA rfl) (Nat.le_trans hs (Nat.le_add_right _ _)) (by dsimp only [mv]; omega)) rfl
theorem comment_in : AllIn s (comment s x).1 := by
  unfold comment
  split
  · exact in_err hA hs hp
  · rename_i q hq
    have hb := (b_idx hq).1
    rw [List.length_append, rd3, List.length_drop] at hb
    simp only [List.length_cons, List.length_nil] at hb
    split
    · exact in_err hA hs hp
    · have h1 : AllIn s (mv (q - 2) (ign (mv 2 (emitT s x)))) := in_same (in_emitT hA hs hp) rfl
      have h2 : AllIn s (mv 3 (ign (mv 2 (emitT s (mv (q - 2) (ign (mv 2 (emitT s x)))))))) := in_same (in_emitT h1 (by dsimp only [mv, ign, emitT]; omega) (by dsimp only [mv, ign, emitT]; omega)) rfl
      exact in_emitT h2 (by dsimp only [mv, ign, emitT]; omega) (by dsimp only [mv, ign, emitT]; omega)
theorem right_in (hh : Here E s .right x) : AllIn s (right x).1 := by
  have h3 := Lex0.pre_len (show (rd x.md).isPrefixOf (s.drop x.pos) = true from hh)
  rw [rd3, List.length_drop] at h3
  unfold right
  exact in_emit (x := { mv 3 x with closing := 0 }) (in_same hA rfl) (Nat.le_trans hs (Nat.le_add_right _ _)) (by dsimp only [mv]; omega)
theorem pval_in : AllIn s (pval s x).1 := by
  have hb := b_tosp (s.drop x.pos)
  rw [List.length_drop] at hb
  unfold pval
  exact in_emit (x := mv _ x) (in_same hA rfl) (Nat.le_trans hs (Nat.le_add_right _ _)) (by dsimp only [mv]; omega)
theorem endsc_in : AllIn s (endsc s x).1 := by
  unfold endsc
  dsimp only
  split
  · exact in_same hA rfl
  · split
    · exact in_err (x := { x with inl := false }) (in_same hA rfl) hs hp
    · rename_i c r hd
      have hl := congrArg List.length hd
      rw [List.length_drop, List.length_cons] at hl
      split
      · exact in_same hA rfl
      · have hw := wd_le (c :: r)
        rw [List.length_cons] at hw
        exact fail_in (x := { x with inl := false }) hs (in_same hA rfl) _ (by dsimp only; omega)
theorem quoted_in (alw : Bool) (ty : Nat) : AllIn s (Lex0.quoted s alw ty x).1 := by
  obtain ⟨h1, h2, h3, h4⟩ := b_q alw (s.drop x.pos) 0 none false false false (by simp)
  rw [List.length_drop] at h2
  unfold Lex0.quoted
  dsimp only
  generalize qLoop alw (s.drop x.pos) 0 none false false false = q at h1 h2 h3 h4 ⊢
  have hst : stAt x q.2.2.1 ≤ x.pos + q.2.1 := by
    cases hq : q.2.2.1 with
    | none => unfold stAt; dsimp only; omega
    | some k => unfold stAt; have := h3 k hq; dsimp only; omega
  have hpy : x.pos + q.2.1 ≤ s.length := by omega
  have hy : AllIn s { x with pos := x.pos + q.2.1, start := stAt x q.2.2.1 } := in_same hA rfl
  split
  · exact in_err hy hst hpy
  · refine in_qEnd ?_
    split
    · exact in_emitE hy hst hpy
    · exact in_emitS hy hst hpy
theorem raw_in (ty : Nat) : AllIn s (raw s ty x).1 := by
  obtain ⟨h1, h2, h3, h4, h5⟩ := b_r (s.drop x.pos) 0 none false (by simp)
  rw [List.length_drop] at h2 h5
  unfold raw
  dsimp only
  generalize rLoop (s.drop x.pos) 0 none false = q at h1 h2 h3 h4 h5 ⊢
  have hst : stAt x q.2.2 ≤ x.pos + q.2.1 := by
    cases hq : q.2.2 with
    | none => unfold stAt; dsimp only; omega
    | some k => unfold stAt; have := h3 k hq; dsimp only; omega
  have hpy : x.pos + q.2.1 ≤ s.length := by omega
  have hy : AllIn s { x with pos := x.pos + q.2.1, start := stAt x q.2.2 } := in_same hA rfl
  split
  · exact in_err hy hst hpy
  · exact in_same (in_emitS hy hst hpy) rfl
theorem param_in (esc : Bool) : AllIn s (param E s esc x).1 := by
  have h1n : rn (s.drop x.pos) = 34 ∨ rn (s.drop x.pos) = 96 → x.pos + 1 ≤ s.length := fun h => by
    have hne : s.drop x.pos ≠ [] := fun h0 => by rw [h0] at h; rw [show rn [] = -1 from rfl] at h; omega
    have := List.length_pos_iff.2 hne
    rw [List.length_drop] at this
    omega
  have ff : ∀ (n : Nat), x.pos + n ≤ s.length → AllIn s (fail (mv n x)).1 := fun n hn => fail_in hs hA n hn
  unfold param
  dsimp only
  split
  · rename_i hq
    have h34 : rn (s.drop x.pos) = 34 ∨ rn (s.drop x.pos) = 96 := by rcases hq with h | h; exact .inl h; exact .inr h.1
    split
    · exact ff 1 (h1n h34)
    · split
      · exact quoted_in (x := { x with par := 1 }) hp hs (in_same hA rfl) (!esc) 15
      · exact raw_in (x := { x with par := 1 }) hp hs (in_same hA rfl) 15
  · split
    · rename_i h96
      exact ff 1 (h1n (.inr h96))
    · have hb := b_run (parR E) _ (s.drop x.pos) (Nat.le_refl _)
      rw [List.length_drop] at hb
      generalize Lex0.runN (parR E) (s.drop x.pos) = n at hb ⊢
      have hn : x.pos + n ≤ s.length := by omega
      split
      · exact in_emit (x := { mv n x with par := _ }) (in_same hA rfl) (Nat.le_trans hs (Nat.le_add_right _ _)) hn
      · split
        · exact ff n hn
        · split
          · exact ff n hn
          · exact in_emit (x := mv n x) (in_same hA rfl) (Nat.le_trans hs (Nat.le_add_right _ _)) hn
theorem ident_in : AllIn s (ident E s x).1 := by
  have hb := b_id E _ (s.drop x.pos) 0 x.inl (Nat.le_refl _)
  rw [List.length_drop] at hb
  unfold ident
  dsimp only
  generalize idLoop E (s.drop x.pos) 0 x.inl = q at hb ⊢
  have hq : x.pos + q.2.1 ≤ s.length := by omega
  have hy : AllIn s { x with pos := x.pos + q.2.1, inl := q.2.2 } := in_same hA rfl
  split
  · exact in_err hy (Nat.le_trans hs (Nat.le_add_right _ _)) hq
  · split
    · exact in_err hy (Nat.le_trans hs (Nat.le_add_right _ _)) hq
    · exact in_app hA (k := [_]) rfl fun it hi => by
        rw [List.mem_singleton.1 hi]
        exact in_mk rfl (Nat.le_trans hs (Nat.le_add_right _ _)) hq
theorem inside_in : AllIn s (inside E s x).1 := by
  unfold inside
  dsimp only
  split
  · exact hA
  · split
    · exact in_err hA hs hp
    · rename_i hne
      have hl := List.length_pos_iff.2 hne
      rw [List.length_drop] at hl
      have hw := wd_le (s.drop x.pos)
      rw [List.length_drop] at hw
      split
      · exact in_same hA rfl
      · split
        · have hb := b_sp ((s.drop x.pos).drop 1)
          rw [List.length_drop, List.length_drop] at hb
          have hy : (ign (mv (1 + spN ((s.drop x.pos).drop 1)) x)).pos ≤ s.length := by dsimp only [mv, ign]; omega
          split
          · exact quoted_in (x := ign (mv (1 + spN ((s.drop x.pos).drop 1)) x)) hy (Nat.le_refl _) (in_same hA rfl) _ 16
          · split
            · exact raw_in (x := ign (mv (1 + spN ((s.drop x.pos).drop 1)) x)) hy (Nat.le_refl _) (in_same hA rfl) 16
            · exact in_same hA rfl
        · split
          · split
            · exact fail_in hs hA 1 (by omega)
            · exact in_emit (x := { mv 1 x with closing := x.closing + 1, inl := false, step := 0 }) (in_same hA rfl) (Nat.le_trans hs (Nat.le_add_right _ _)) (by dsimp only [mv]; omega)
          · split
            · have hy : (ign (mv 1 x)).pos ≤ s.length := by dsimp only [mv, ign]; omega
              split
              · exact param_in (x := ign (mv 1 x)) hy (Nat.le_refl _) (in_same hA rfl) true
              · exact in_same hA rfl
            · split
              · exact param_in hp hs hA false
              · split
                · exact hA
                · exact fail_in hs hA _ (by omega)
theorem piece_in (hl : x.pos + 2 ≤ s.length) : AllIn s (piece E s dv x).1 := by
  unfold piece
  dsimp only
  split
  · split
    · exact in_same (in_err hA hs hp) rfl
    · exact in_same hA rfl
  · split
    · rename_i hd
      simp only [Bool.and_eq_true] at hd
      have h1 := Lex0.pre_len hd.2
      have h3 := b_sp ((s.drop x.pos).drop (divr x.org).length)
      rw [List.length_drop] at h1
      rw [List.length_drop, List.length_drop] at h3
      exact in_app hA (k := [_]) rfl fun it hi => by
        rw [List.mem_singleton.1 hi]
        exact in_mk rfl (by dsimp only [mk]; omega) (by dsimp only [mk]; omega)
    · exact in_same hA rfl
theorem main_in : AllIn s (main E s dv x).1 := by
  unfold main
  split
  · exact hA
  · split
    · exact in_same hA rfl
    · rename_i q hq
      have hb := b_found hp hs hq
      have h1 : AllIn s (mv q x) := in_same hA rfl
      split
      · exact piece_in (x := emitT s (mv q x)) (by show x.pos + q ≤ _; omega) (Nat.le_refl _) (in_emitT h1 (Nat.le_trans hs (Nat.le_add_right _ _)) (by show x.pos + q ≤ _; omega)) (by show x.pos + q + 2 ≤ _; omega)
      · exact piece_in (x := mv q x) (by show x.pos + q ≤ _; omega) (Nat.le_trans hs (Nat.le_add_right _ _)) h1 (by show x.pos + q + 2 ≤ _; omega)
theorem json_in : AllIn s (json s x).1 := by
  unfold json
  split
  · exact in_err (x := { x with pos := s.length }) (in_same hA rfl) (by dsimp only; omega) (Nat.le_refl _)
  · rename_i n hn
    have hb := b_json _ _ _ _ _ _ (Nat.le_refl _) hn
    have hc := b_crlf (s.drop (x.pos + n))
    rw [List.length_drop] at hb hc
    exact in_emit (x := mv _ x) (in_same hA rfl) (Nat.le_trans hs (Nat.le_add_right _ _)) (by dsimp only [mv]; omega)
theorem org_in : AllIn s (org s x).1 := by
  unfold org
  split
  · have hb := b_org (s.drop x.pos) 0
    rw [List.length_drop] at hb
    exact in_app hA (k := [_]) rfl fun it hi => by
      rw [List.mem_singleton.1 hi]
      exact in_mk rfl (by dsimp only [mk, mv]; omega) (by dsimp only [mk, mv]; omega)
  · exact hA
theorem fence_in (c : UInt8) (ty : Nat) : AllIn s (fence s c ty x).1 := by
  have ff : ∀ (n : Nat), x.pos + n ≤ s.length → AllIn s (fail (mv n x)).1 := fun n hn => fail_in hs hA n hn
  unfold fence
  split
  · rename_i a b r hd
    have hl := congrArg List.length hd
    rw [List.length_drop] at hl
    simp only [List.length_cons] at hl
    split
    · split
      · dsimp only
        have hc := b_crlf r
        split
        · exact in_err (x := { ign (mv (2 + crlf r) x) with pos := s.length }) (in_same hA rfl) (by dsimp only [ign, mv]; omega) (Nat.le_refl _)
        · rename_i n hn
          have hb := b_fr0 _ _ _ _ hn
          rw [List.length_drop] at hb
          simp only [List.length_cons, List.length_nil] at hb
          dsimp only [ign, mv] at hb
          exact in_same (in_emit (x := mv n (ign (mv (2 + crlf r) x))) (t := ty) (in_same hA rfl) (Nat.le_add_right _ _) (by dsimp only [ign, mv]; omega)) rfl
      · have hw := wd_le (b :: r)
        simp only [List.length_cons] at hw
        exact ff _ (by omega)
    · have hw := wd_le (a :: b :: r)
      simp only [List.length_cons] at hw
      exact ff _ (by omega)
  · rename_i a hd
    have hl := congrArg List.length hd
    rw [List.length_drop] at hl
    simp only [List.length_cons, List.length_nil] at hl
    split
    · exact ff 1 (by omega)
    · have hw := wd_le [a]
      simp only [List.length_cons, List.length_nil] at hw
      exact ff _ (by omega)
  · exact ff 0 hp
omit hp in
theorem intro_in : AllIn s (intro s x).1 := by
  have hb := b_sp (s.drop x.pos)
  rw [List.length_drop] at hb
  unfold intro
  dsimp only
  split
  · exact in_same hA rfl
  · rename_i c r hd
    have hl := congrArg List.length hd
    rw [List.length_drop] at hl
    simp only [List.length_cons, mv] at hl
    have fe : ∀ (c : UInt8) (ty : Nat), AllIn s (fence s c ty (mv 1 (mv (spN (s.drop x.pos)) x))).1 := fun c ty =>
      fence_in (x := mv 1 (mv (spN (s.drop x.pos)) x)) (by dsimp only [mv]; omega) (by dsimp only [mv]; omega) (in_same hA rfl) c ty
    split
    · exact fe _ _
    · split
      · exact fe _ _
      · split
        · exact in_same hA rfl
        · split <;> exact in_same hA rfl
end
theorem step_in {E : Env} {s : T} {dv : Bool} {st : Lex0.St} {x : Lx} (h : Lex0.Good E s st x) (hA : AllIn s x) : AllIn s (Lex0.step E s dv st x).1 := by
  obtain ⟨hp, hs, hh⟩ := h
  cases st with
  | main => exact main_in hp hs hA
  | done => exact done_in hp hs hA
  | left => exact left_in hp hs hA hh
  | comment => exact comment_in hp hs hA
  | right => exact right_in hp hs hA hh
  | inside => exact inside_in hp hs hA
  | pval => exact pval_in hp hs hA
  | ident => exact ident_in hp hs hA
  | endsc => exact endsc_in hp hs hA
  | intro => exact intro_in hs hA
  | json => exact json_in hp hs hA
  | org => exact org_in hp hs hA
theorem runs_in {E : Env} (hal : E.al (-1) = false) {s : T} {dv : Bool} {n : Nat} {st : Lex0.St} {x : Lx} {l : List Itm} (h : RunsN E s dv n st x l) : Lex0.Good E s st x → AllIn s x → (∀ it ∈ l, InI s it) ∧ l.length ≤ x.items.length + 6 * (n + 1) := by
  induction h with
  | @stop n st x y h =>
    intro hg hA
    have h1 := step_in (dv := dv) hg hA
    obtain ⟨k, h2, h3⟩ := (step_fwd (dv := dv) hal hg).1.its
    rw [h] at h1 h2
    exact ⟨h1, by dsimp only at h2; rw [h2, List.length_append]; omega⟩
  | @go n st x st' y l h _ ih =>
    intro hg hA
    have h1 := step_in (dv := dv) hg hA
    obtain ⟨k, h2, h3⟩ := (step_fwd (dv := dv) hal hg).1.its
    rw [h] at h1 h2
    dsimp only at h2
    obtain ⟨i1, i2⟩ := ih (step_good hal hg h).1 h1
    exact ⟨i1, by rw [h2, List.length_append] at i2; omega⟩
theorem parse_in (s : T) (front dv : Bool) : (∀ it ∈ parse envT s front dv, InI s it) ∧ (parse envT s front dv).length ≤ 24 * s.length + 24 := by
  obtain ⟨h1, h2⟩ := runs_in env_al (parsesN' env_al s front dv) (good0 envT s front) (fun it hi => by cases hi)
  exact ⟨h1, Nat.le_trans h2 (by show 0 + _ ≤ _; omega)⟩
end Go.Proofs.YtkehggbmpdacpaaGreatDoor.Pg
namespace Go.Proofs.YtkehggbmpdacpaaGreatDoor.Pg
open Go.Rx hiding bt
open Go.RowKit Go.Proofs.YtkehggbmpdacpaaGreatDoor.Dec0 Go.Proofs.YtkehggbmpdacpaaGreatDoor.Lex0
noncomputable def told (s : T) (front dv : Bool) : List Ti := (parse envT s front dv).map (toldI envT s)
theorem tisC_told (s : T) (front dv : Bool) : tisC s (parse envT s front dv) = (told s front dv).flatMap tiC := by
  unfold tisC told
  rw [List.flatMap_map]
theorem parse16_calls {w : World} (hT : Tab w) (bs : ByteArray) (front dv : Bool) (hbig : bs.data.toList.length ≤ 4294967296) :
    Calls Tryz.prog 16 #[.string bs, .bool front, .bool dv] w fun e w' => ∃ r : Row, e = .returned (r.val (told bs.data.toList front dv).length) ∧ Has (r.mem ((told bs.data.toList front dv).flatMap tiC) 42) w' ∧ r.ok w.heap.size 5 (told bs.data.toList front dv).length ((told bs.data.toList front dv).flatMap tiC) ∧ Below w.heap.size w w' := by
  obtain ⟨h1, h2⟩ := parse_in bs.data.toList front dv
  have := parse_calls hT bs front dv hbig _ rfl (by omega) h1
  rw [tisC_told] at this
  have e : (told bs.data.toList front dv).length = (parse envT bs.data.toList front dv).length := List.length_map _
  rw [e]
  exact this
theorem fb29_0 : fieldB Tryz.prog 29 0 = some 0 := by kernel_rfl
theorem fb29_1 : fieldB Tryz.prog 29 1 = some 1 := by kernel_rfl
theorem one9' : oneB Tryz.prog 9 = true := by kernel_rfl
theorem si9' : (Tryz.prog.info? 9).map (·.size) = some 1 := by kernel_rfl
def bkB (g : Nat) (txt : ByteArray) (v : Value) : Nat × List Value × Bk := (g, [.string txt, v], .c 29)
theorem bo51 : bodyB Tryz.prog 51 = true := by kernel_rfl
theorem eg42 : Tryz.prog.eqGuardType Tryz.prog.depth 42 = false := by kernel_rfl
theorem ee42 (a b : Int) (c : ByteArray) (d : Bool) (e : Int) (a' b' : Int) (c' : ByteArray) (d' : Bool) (e' : Int) : eqE Tryz.prog 10000 42 (.agg [.int .i64 a, .int .i64 b, .string c, .bool d, .int .u16 e].toArray) (.agg [.int .i64 a', .int .i64 b', .string c', .bool d', .int .u16 e'].toArray) = some (decide (a = a') && (decide (b = b') && (decide (c = c') && ((d == d') && (decide (e = e') && true))))) := by kernel_rfl
theorem es42 (a b : Int) (c : ByteArray) (d : Bool) (e : Int) : eqE Tryz.prog 10000 42 (.agg [.int .i64 a, .int .i64 b, .string c, .bool d, .int .u16 e].toArray) (.agg [.int .i64 a, .int .i64 b, .string c, .bool d, .int .u16 e].toArray) = some true := by rw [ee42]; simp
theorem fb42_0 : fieldB Tryz.prog 42 0 = some 0 := by kernel_rfl
theorem fb42_3 : fieldB Tryz.prog 42 3 = some 3 := by kernel_rfl
theorem und4' : Tryz.prog.underlying 4 = some .bool := by kernel_rfl
theorem same_calls {w : World} (t : Ti) : Calls Tryz.prog 51 #[.agg (tiC t).toArray, .agg (tiC t).toArray] w fun e w' => e = .returned (.bool true) ∧ Below w.heap.size w w' := by
  refine enter (fun _ => False) 21 [] Tryz.func51 rfl rfl rfl (vs := [.agg (tiC t).toArray, .agg (tiC t).toArray]) (Has.nil _) ?_
  conv => arg 2; arg 2; whnf
  by_cases h0 : t.ty = 0
  · repeat' (first | refine cseq ?_ | refine rtext ?_ | refine ctrue rfl ?_ | refine cret ?_ | refine tret ?_ | refine jnil ?_ | (first | refine jmv rfl rfl rfl ?_ | (show Jo _ (.fieldAddr _ _ _); refine jy (yfield rfl (by first | exact fb42_0 | exact fb42_3) rfl) rfl rfl ?_) | (show Jo _ (.load _ _); first | refine jy (yload (i := 0) rfl rfl rfl one3) rfl rfl ?_ | refine jy (yload (i := 1) rfl rfl rfl one3) rfl rfl ?_) | refine jas_ rfl rfl rfl ?_ | (show Jo _ (.binOp _ _ _ _ _); first | (show Jo _ (.binOp .eql 4 _ _ _); refine jy (ybeq (c := true) rfl rfl und4' (by simp)) rfl rfl ?_) | refine jy (yeql rfl rfl (by (exact decide_eq_true (by omega)))) rfl rfl ?_) | (show Jo _ (.pick _ _ _); refine jy (ypick1 rfl rfl) rfl rfl ?_) | (show Jo (some 2) (.box _ _); refine jbox rfl rfl rfl (fun g2 h2 => ?_)) | (show Jo (some 3) (.box _ _); refine jbox rfl rfl rfl (fun g3 h3 => ?_))))
    exact ret1 rfl rfl rfl (fun w' hw' => ⟨rfl, hw'.2.below (fun k _ h => h) (Nat.le_refl _)⟩)
  · repeat' (first | refine cseq ?_ | refine rtext ?_ | refine cfalse rfl ?_ | refine cskip ?_ | refine cret ?_ | refine jnil ?_ | (first | refine js rfl rfl ?_ | refine jmv rfl rfl rfl ?_ | (show Jo _ (.fieldAddr _ _ _); refine jy (yfield rfl fb42_0 rfl) rfl rfl ?_) | (show Jo _ (.load _ _); first | refine jy (yload (i := 1) rfl rfl rfl one3) rfl rfl ?_ | refine jy (yloads (i := 0) rfl rfl ag42) rfl rfl ?_ | refine jy (yloads (i := 1) rfl rfl ag42) rfl rfl ?_) | refine jas_ rfl rfl rfl ?_ | (show Jo _ (.binOp _ _ _ _ _); first | (show Jo _ (.binOp .eql 42 _ _ _); refine jy (yeqA (xs := [_, _, _, _, _]) (ys := [_, _, _, _, _]) rfl rfl eg42 (es42 _ _ _ _ _)) rfl rfl ?_) | refine jy (yeql rfl rfl (by (exact decide_eq_false (by omega)))) rfl rfl ?_) | (show Jo _ (.pick _ _ _); refine jy (ypick0 rfl rfl) rfl rfl ?_) | (show Jo (some 2) (.box _ _); refine jbox rfl rfl rfl (fun g2 h2 => ?_)) | (show Jo (some 3) (.box _ _); refine jbox rfl rfl rfl (fun g3 h3 => ?_))))
    exact ret1 rfl rfl rfl (fun w' hw' => ⟨rfl, hw'.2.below (fun k _ h => h) (Nat.le_refl _)⟩)
theorem bo30 : bodyB Tryz.prog 30 = true := by kernel_rfl
theorem und24 : Tryz.prog.underlying 24 = some (.slice 42) := by kernel_rfl
theorem sz42 : szB Tryz.prog 42 5 = true := by kernel_rfl
def TisAt (w : World) (v : Value) (l : List Ti) : Prop := ∃ A c, v = .slice A l.length c ∧ ∀ (j : Nat) t, l[j]? = some t → ∃ ad, A = some ad ∧ ∀ (i : Nat) u, (tiC t)[i]? = some u → w.cell? ((ad.add (5 * j)).add i) = some u
theorem sameItems_calls {w : World} {v1 v2 : Value} {l : List Ti} (h1 : TisAt w v1 l) (h2 : TisAt w v2 l) (hl : l.length ≤ 1000000000000) : Calls Tryz.prog 30 #[v1, v2] w fun e w' => e = .returned (.bool true) ∧ Below w.heap.size w w' := by
  obtain ⟨A1, c1, rfl, k1⟩ := h1
  obtain ⟨A2, c2, rfl, k2⟩ := h2
  refine enter (fun _ => False) 27 [] Tryz.func30 rfl rfl rfl (vs := [.slice A1 l.length c1, .slice A2 l.length c2]) (Has.nil _) ?_
  conv => arg 2; arg 2; whnf
  repeat' ((fail_if_success (show PJ _ (Code.wp _ (Code.loop _) _) _ _)); first | first | refine cseq ?_ | refine rtext ?_ | refine cfalse rfl ?_ | refine cskip ?_ | refine cblk ?_ | refine jnil ?_ | (first | refine jmv rfl rfl rfl ?_ | refine jas_ rfl rfl rfl ?_ | (show Jo _ (.binOp _ _ _ _ _); ((show Jo _ (.binOp .neq _ _ _ _); refine jy (yneq rfl rfl (by (exact decide_eq_false (by omega)))) rfl rfl ?_))) | (show Jo _ (.call _); ((show Jo _ (.call ⟨.builtin .len, _, _⟩); refine jy (ylenl rfl und24) rfl rfl ?_)))))
  refine fin (f' := [(0, .slice A1 l.length c1), (1, .slice A2 l.length c2), (12, .int .i64 l.length), (13, .int .i64 (0 : Nat))]) (m' := [])
    (cloop (ι := Nat) (fun j => [(0, .slice A1 l.length c1), (1, .slice A2 l.length c2), (12, .int .i64 l.length), (13, .int .i64 (j : Nat))]) (fun _ => []) (fun n j => n = l.length - j ∧ j ≤ l.length) l.length 0 ⟨rfl, Nat.zero_le _⟩ ?_) ⟨rfl, rfl, rfl, rfl, trivial⟩ rfl
  rintro n j ⟨rfl, hj⟩ K hK
  by_cases hlt : j < l.length
  · obtain ⟨t, ht⟩ : ∃ t, l[j]? = some t := ⟨_, List.getElem?_eq_getElem hlt⟩
    obtain ⟨ad1, rfl, hc1⟩ := k1 j t ht
    obtain ⟨ad2, rfl, hc2⟩ := k2 j t ht
    have hk := hK (l.length - (j + 1)) (j + 1) (by omega) ⟨rfl, by omega⟩
    repeat' (first | (show PJ _ (Code.wp _ _ _) _ _; first | refine cseq ?_ | refine rtext ?_ | refine ctrue rfl ?_ | refine cfalse rfl ?_ | refine cskip ?_ | refine cblk ?_ | refine rquiet mixed (by kernel_rfl) ?_) | refine tnorm ?_ | refine jnil ?_ | (first | refine jmv rfl rfl rfl ?_ | (show Jo _ (.load _ _); first | refine jy (yloadsw (c := tiC t) rfl hc1 (fun h => h) ag42) rfl rfl ?_ | refine jy (yloadsw (c := tiC t) rfl hc2 (fun h => h) ag42) rfl rfl ?_) | refine jas_ rfl rfl rfl ?_ | (show Jo _ (.binOp _ _ _ _ _); first | (show Jo _ (.binOp .add _ _ _ _); refine jy (yadd (c := ((j + 1 : Nat) : Int)) rfl rfl (by rw [i64_in (by omega) (by omega)]; omega)) rfl rfl ?_) | refine jy (ylss rfl rfl (by (exact decide_eq_true (by omega)))) rfl rfl ?_) | refine jy (ynot rfl rfl) rfl rfl ?_ | (show Jo _ (.call _); ((show Jo _ (.call ⟨.value (.func 51), _, _⟩); refine jcallq bo51 rfl rfl rfl (quietC fun w' hw' => same_calls t) ?_))) | (show Jo (some 18) (.indexAddr _ _ _); refine jy (yat (p' := ad1.add (5 * j)) rfl rfl und24 sz42 (by omega) (by omega) (by congr 1; omega)) rfl rfl ?_) | (show Jo (some 22) (.indexAddr _ _ _); refine jy (yat (p' := ad2.add (5 * j)) rfl rfl und24 sz42 (by omega) (by omega) (by congr 1; omega)) rfl rfl ?_)))
    exact fin hk ⟨rfl, rfl, rfl, rfl, trivial⟩ rfl
  · obtain rfl : j = l.length := by omega
    repeat' (first | refine cseq ?_ | refine rtext ?_ | refine cfalse rfl ?_ | refine cret ?_ | refine cexit ?_ | refine jnil ?_ | (first | refine jas_ rfl rfl rfl ?_ | (show Jo _ (.binOp _ _ _ _ _); refine jy (ylss rfl rfl (by (exact decide_eq_false (by omega)))) rfl rfl ?_)))
    exact ret1 rfl rfl rfl (fun w' hw' => ⟨rfl, hw'.2.below (fun k _ h => h) (Nat.le_refl _)⟩)
end Go.Proofs.YtkehggbmpdacpaaGreatDoor.Pg
namespace Go.Proofs.YtkehggbmpdacpaaGreatDoor.Lw
open Go.Rx
open Go.RowKit Go.Proofs.YtkehggbmpdacpaaGreatDoor.Dec0 Go.Proofs.YtkehggbmpdacpaaGreatDoor.Txt0
theorem und9 : Tryz.prog.underlying 9 = some .string := by kernel_rfl
theorem boHas : bodyB Tryz.prog 14 = true := by kernel_rfl
set_option maxHeartbeats 1000000 in
theorem has_calls (s x : ByteArray) (w : World) (hs : s.size ≤ 4611686018427387904) (hx : x.size ≤ 4294967296) : Calls Tryz.prog 14 #[.string s, .string x] w fun e w' => e = .returned (.bool (hasT x.data.toList s.data.toList)) ∧ Below w.heap.size w w' := by
  refine enter (fun _ => False) 24 [] Tryz.func14 rfl rfl rfl (vs := [.string s, .string x]) (Has.nil _) ?_
  conv => arg 2; arg 2; whnf
  have post : ∀ (f : Fr) (m : Mem) (b : Bool), hasT x.data.toList s.data.toList = b → Rx.look f 4 = some (.bool b) → PJ ⟨24, [], fun _ => False, w⟩ (bodyPost Tryz.prog Tryz.f14 (fun e w' => e = .returned (.bool (hasT x.data.toList s.data.toList)) ∧ Below w.heap.size w w') .ret) f m := fun f m b hb hf => by
    subst hb
    exact ret1 rfl rfl hf (fun w' hw' => ⟨rfl, hw'.2.below (fun k _ h => h) (Nat.le_refl _)⟩)
  repeat' (first | refine cseq ?_ | refine rtext ?_ | refine cblk ?_ | refine jnil ?_ | ((refine jas_ rfl rfl rfl ?_)))
  refine fin (f' := [(0, .string s), (1, .string x), (5, .int .i64 (0 : Nat))]) (m' := [])
    (cloop (ι := Nat) (fun j => [(0, .string s), (1, .string x), (5, .int .i64 (j : Nat))]) (fun _ => []) (fun k j => k = s.size + 1 - j ∧ j ≤ s.size + 1 ∧ hasT x.data.toList s.data.toList = hasT x.data.toList (s.data.toList.drop j) ∧ (x.size = 0 → j = 0)) (s.size + 1) 0 ⟨rfl, by omega, rfl, fun _ => rfl⟩ ?_) ⟨rfl, rfl, rfl, trivial⟩ rfl
  rintro k j ⟨rfl, hj, heq, h0⟩ K hK
  by_cases hlt : j + x.size ≤ s.size
  case neg =>
    repeat' (first | refine cseq ?_ | refine rtext ?_ | refine cfalse rfl ?_ | refine cret ?_ | refine cexit ?_ | refine jnil ?_ | (first | refine jmv rfl rfl rfl ?_ | refine jas_ rfl rfl rfl ?_ | (show Jo _ (.binOp _ _ _ _ _); first | (show Jo _ (.binOp .add _ _ _ _); refine jy (yadd (c := ((j + x.size : Nat) : Int)) rfl rfl (by rw [i64_in (by omega) (by omega)]; omega)) rfl rfl ?_) | refine jy (yleq rfl rfl (by (exact decide_eq_false (by omega)))) rfl rfl ?_) | (show Jo _ (.call _); ((show Jo _ (.call ⟨.builtin .len, _, _⟩); refine jy (ylens rfl und9) rfl rfl ?_)))))
    refine post _ _ false ?_ rfl
    rw [heq, hasT_short _ _ (by rw [List.length_drop, size_list, size_list]; omega)]
  cases hpe : x.data.toList.isPrefixOf (s.data.toList.drop j)
  all_goals
    replace hpe := (piece_eq s x ((j : Nat) : Int).toNat ((j + x.size : Nat) : Int).toNat (by omega)).trans hpe
    repeat' (first | refine cseq ?_ | refine rtext ?_ | refine ctrue rfl ?_ | refine cfalse rfl ?_ | refine cskip ?_ | refine cblk ?_ | refine cret ?_ | refine tnorm ?_ | refine tret ?_ | refine bret ?_ | refine jnil ?_ | (first | refine jmv rfl rfl rfl ?_ | refine jas_ rfl rfl rfl ?_ | (show Jo _ (.binOp _ _ _ _ _); first | (show Jo (some 14) (.binOp .add _ _ _ _); refine jy (yadd (c := ((j + 1 : Nat) : Int)) rfl rfl (by rw [i64_in (by omega) (by omega)]; omega)) rfl rfl ?_) | (show Jo _ (.binOp .add _ _ _ _); refine jy (yadd (c := ((j + x.size : Nat) : Int)) rfl rfl (by rw [i64_in (by omega) (by omega)]; omega)) rfl rfl ?_) | refine jy (yleq rfl rfl (by (exact decide_eq_true (by omega)))) rfl rfl ?_ | (show Jo _ (.binOp .eql 9 _ _ _); refine jy (yseql rfl rfl hpe) rfl rfl ?_)) | (show Jo _ (.slice _ _ _ _ _); refine jy (yslice rfl rfl rfl und9 (by omega) (by omega) (by omega) rfl) rfl rfl ?_) | (show Jo _ (.call _); ((show Jo _ (.call ⟨.builtin .len, _, _⟩); refine jy (ylens rfl und9) rfl rfl ?_)))))
  · have hp := (piece_eq s x ((j : Nat) : Int).toNat ((j + x.size : Nat) : Int).toNat (by omega)).symm.trans hpe
    rw [Int.toNat_natCast] at hp
    have hx0 : x.data.toList ≠ [] := by
      intro e
      rw [e] at hp
      simp at hp
    have hxs : x.size ≠ 0 := by
      intro e
      apply hx0
      rw [← List.length_eq_zero_iff, size_list]
      exact e
    refine fin (hK (s.size + 1 - (j + 1)) (j + 1) (by omega) ⟨rfl, by omega, ?_, fun e => absurd e hxs⟩) ⟨rfl, rfl, rfl, trivial⟩ rfl
    rw [heq, hasT_drop _ _ hx0, hp, Bool.false_or, List.drop_drop]
  · have hp := (piece_eq s x ((j : Nat) : Int).toNat ((j + x.size : Nat) : Int).toNat (by omega)).symm.trans hpe
    rw [Int.toNat_natCast] at hp
    refine post _ _ true ?_ rfl
    rw [heq]
    cases hd : s.data.toList.drop j with
    | nil =>
      rw [hd] at hp
      cases hx : x.data.toList with
      | nil => rfl
      | cons a b => rw [hx] at hp; simp at hp
    | cons c r => rw [hd] at hp; rw [hasT, hp]; rfl
theorem has_in {X : Cx} {m : Mem} {s x : ByteArray} (hs : s.size ≤ 4611686018427387904) (hx : x.size ≤ 4294967296) : ∀ w, Cl X m w → Calls Tryz.prog 14 #[.string s, .string x] w fun e w' => e = .returned (.bool (hasT x.data.toList s.data.toList)) ∧ Cl X m w' :=
  quietC fun w _ => has_calls s x w hs hx
def strs (l : List ByteArray) : List Value := l.map .string
theorem und24 : Tryz.prog.underlying 32 = some (.slice 9) := by kernel_rfl


theorem add_at (g j : Nat) : (⟨g, 0, none⟩ : Addr).add (((j : Nat) : Int).toNat * 1) = ⟨g, j, none⟩ := by
  unfold Addr.add
  rw [Int.toNat_natCast, Nat.mul_one]
  by_cases h : j = 0
  · rw [if_pos h, h]
  · rw [if_neg h]
    dsimp only
    rw [Nat.zero_add]
end Go.Proofs.YtkehggbmpdacpaaGreatDoor.Lw
namespace Go.Proofs.YtkehggbmpdacpaaGreatDoor.Pg
open Go.Rx hiding bt
open Go.RowKit Go.Proofs.YtkehggbmpdacpaaGreatDoor.Dec0 Go.Proofs.YtkehggbmpdacpaaGreatDoor.Lex0
section
variable {w : World} {ty g : Nat} {pos : Int} {tx : ByteArray} {fl : Bool} {is : Int} (hs : tx.size ≤ 4611686018427387904) (ha : ∀ c ∈ tx.data.toList, c.toNat < 128)
include hs ha
end
theorem si24 : (Tryz.prog.info? 24).map (·.size) = some 1 := by kernel_rfl
def bkM (g : Nat) (s : ByteArray) (r : Row) (l : List Ti) (E : Mem) : Mem := bkB g s (r.val l.length) :: (r.mem (l.flatMap tiC) 42 ++ E)
structure BkOk (X : Cx) (r : Row) (l : List Ti) : Prop where
  ok : r.ok 0 5 l.length (l.flatMap tiC)
  may : r.may X
theorem BkOk.sub {X : Cx} {r : Row} {l : List Ti} (h : BkOk X r l) (n : Nat) {m : Mem} {w : World} (hw : Cl X m w) : BkOk (X.sub n w) r l := ⟨h.ok, Row.may_sub h.may⟩
theorem BkOk.up {X : Cx} {r : Row} {l : List Ti} {n : Nat} {m : Mem} {w : World} (hw : Cl X m w) (h : BkOk (X.sub n w) r l) : BkOk X r l := ⟨h.ok, Row.may_up hw h.may⟩
end Go.Proofs.YtkehggbmpdacpaaGreatDoor.Pg
namespace Go.Proofs.YtkehggbmpdacpaaGreatDoor.Lex0
open Go.Proofs.YtkehggbmpdacpaaGreatDoor.Dec0 Go.Proofs.YtkehggbmpdacpaaGreatDoor.Txt0
def lf (md : Bool) : T := if md then lmd else lno
def b0 : Book := ⟨[], []⟩
def Book.left (b : Book) (md : Bool) : Book := b.put (if md then 10 else 8) (lf md)
def Book.right (b : Book) (md : Bool) : Book := b.put (if md then 11 else 9) (rd md)
def Book.fin (b : Book) : Book := b.put 1 []
section
variable {E : Env} {s : T} {dv : Bool} {b : Book} {c : Ctl}
structure QT (v : T) : Prop where
  asc : asc v
  q : ∀ c ∈ v, c ≠ 92 ∧ c ≠ 10 ∧ c ≠ 34
theorem QT.val {v : T} (h : QT v) : ValT v := ⟨h.asc, fun c hc => ⟨(h.q c hc).1, (h.q c hc).2.1⟩, fun e => by
  cases v with
  | nil => cases e
  | cons a v => cases e; exact (h.q 34 (List.mem_cons_self ..)).2.2 rfl⟩
theorem QT.esc {v : T} (h : QT v) : escT v = v := escT_plain fun c hc => (h.q c hc).2.2
def bb (b : Book) (v : T) : Book := (b.pass [32]).put 15 v
end
section
variable {E : Env} (hE : EA E) (hT : TrA E) (dv md : Bool) {w : T} (hw : NameT w)
include hE hT hw
end
end Go.Proofs.YtkehggbmpdacpaaGreatDoor.Lex0
namespace Go.Proofs.YtkehggbmpdacpaaGreatDoor.Pg
open Go.Rx hiding bt
open Go.RowKit Go.Proofs.YtkehggbmpdacpaaGreatDoor.Dec0 Go.Proofs.YtkehggbmpdacpaaGreatDoor.Lex0
@[reducible] def bkS (g : Nat) (B : Book) (r : Row) (E : Mem) : Mem := bkM g (ba B.s) r B.l E
def bsz (B : Book) : Nat := B.s.length + B.l.length
theorem ba_app (a b : T) : ba (a ++ b) = ba a ++ ba b := by
  rw [Txt0.data_inj]
  simp [ba]
theorem bsz_b0 : bsz b0 = 0 := rfl
section
variable {X : Cx} {g : Nat} (hg : X.may g) {B : Book} {r : Row} {E : Mem} (hr : BkOk X r B.l)
include hg hr
end
section
variable {X : Cx} {g : Nat} (hg : X.may g) {B : Book} {r : Row} {E : Mem} (hr : BkOk X r B.l) (hn : bsz B ≤ 1000000000 - 10)
include hg hr hn
end
theorem bo19 : bodyB Tryz.prog 19 = true := by kernel_rfl
theorem cl_row {X : Cx} {m : Mem} {w w' : World} {r : Row} {xs : List Value} {e : TypeId} {n sz : Nat} (hw : Cl X m w) (hb : Below w.heap.size w w') (h : Has (r.mem xs e) w') (hr : r.ok w.heap.size sz n xs) : Cl X (r.mem xs e ++ m) w' := by
  have h1 := hw.below hb
  cases r with
  | nil => exact h1
  | «at» g cap rr =>
    refine ⟨⟨?_, fun x hx => ?_⟩, h1.2⟩
    · show ((g :: m.map (·.1)) : List Nat).Nodup
      rw [List.nodup_cons]
      refine ⟨fun hg => ?_, h1.1.ne⟩
      obtain ⟨x, hx, e⟩ := List.mem_map.1 hg
      have h2 := hw.1.lt hx
      rw [e] at h2
      exact absurd h2 (Nat.not_lt.2 hr.1)
    · rcases List.mem_cons.1 hx with rfl | hx
      · exact h.blk _ (List.mem_singleton.2 rfl)
      · exact h1.1.blk x hx
theorem tiC_at : ∀ {l : List Ti} {j : Nat} {t : Ti} {i : Nat} {u : Value}, l[j]? = some t → (tiC t)[i]? = some u → (l.flatMap tiC)[5 * j + i]? = some u := by
  intro l
  induction l with
  | nil => intro j t i u h; simp at h
  | cons a l ih =>
    intro j t i u h hu
    have hi : i < 5 := by
      have := (List.getElem?_eq_some_iff.1 hu).1
      exact this
    rw [List.flatMap_cons]
    cases j with
    | zero =>
      obtain rfl : a = t := by simpa using h
      rw [List.getElem?_append_left (by show 5 * 0 + i < 5; omega), show 5 * 0 + i = i by omega]
      exact hu
    | succ j =>
      rw [List.getElem?_append_right (by show 5 ≤ 5 * (j + 1) + i; omega)]
      have := ih (j := j) (by simpa using h) hu
      rw [show 5 * (j + 1) + i - (tiC a).length = 5 * j + i by show 5 * (j + 1) + i - 5 = _; omega]
      exact this
theorem tiCs_len : ∀ (l : List Ti), (l.flatMap tiC).length = 5 * l.length := by
  intro l
  induction l with
  | nil => rfl
  | cons a l ih => rw [List.flatMap_cons, List.length_append, ih, List.length_cons]; show 5 + _ = _; omega
theorem tis_of {w : World} {r : Row} {l : List Ti} {B : Nat} (h : Has (r.mem (l.flatMap tiC) 42) w) (hr : r.ok B 5 l.length (l.flatMap tiC)) : TisAt w (r.val l.length) l := by
  cases r with
  | nil =>
    obtain ⟨h0, _⟩ := hr
    have : l = [] := List.length_eq_zero_iff.1 h0
    subst this
    exact ⟨none, 0, rfl, fun j t hj => by simp at hj⟩
  | «at» g cap rr =>
    refine ⟨some ⟨g, 0, none⟩, cap, rfl, fun j t hj => ⟨_, rfl, fun i u hu => ?_⟩⟩
    have h1 : w.heap[g]? = some (.cells (l.flatMap tiC ++ rr).toArray 42 (0, 0)) := h.blk _ (List.mem_singleton.2 rfl)
    rw [add_lit]
    refine cell_row h1 ?_
    rw [List.getElem?_append_left (by have := (List.getElem?_eq_some_iff.1 hj).1; have := (List.getElem?_eq_some_iff.1 hu).1; rw [tiCs_len]; have h5 : (tiC t).length = 5 := rfl; omega)]
    exact tiC_at hj hu
theorem row_ok0 {r : Row} {B sz n : Nat} {xs : List Value} (h : r.ok B sz n xs) : r.ok 0 sz n xs := by
  cases r with
  | nil => exact h
  | «at» g cap rr => exact ⟨Nat.zero_le _, h.2⟩
theorem parseB {X : Cx} (hW : ∃ W, Bs W X ∧ Tab W) {m : Mem} (s : T) (fr dv : Bool) (hs : s.length ≤ 4294967296) : ∀ w, Cl X m w → Calls Tryz.prog 16 #[.string (ba s), .bool fr, .bool dv] w fun e w' => ∃ r : Row, e = .returned (r.val (told s fr dv).length) ∧ Cl X (r.mem ((told s fr dv).flatMap tiC) 42 ++ m) w' ∧ r.ok 0 5 (told s fr dv).length ((told s fr dv).flatMap tiC) := fun w hw => by
  obtain ⟨W, h1, h2⟩ := hW
  refine (parse16_calls (h2.below (h1.w hw)) (ba s) fr dv hs).mono fun e w' ⟨r, e1, e2, e3, e4⟩ => ⟨r, e1, cl_row hw e4 e2 e3, row_ok0 e3⟩
theorem sameB {w : World} {r1 r : Row} {l : List Ti} {B : Book} {g : Nat} {E : Mem} (h : Has (r1.mem (l.flatMap tiC) 42 ++ bkS g B r E) w) (h1 : r1.ok 0 5 l.length (l.flatMap tiC)) (h2 : r.ok 0 5 B.l.length (B.l.flatMap tiC)) (heq : l = B.l) (hl : B.l.length ≤ 1000000000000) :
    Calls Tryz.prog 30 #[r1.val l.length, r.val B.l.length] w fun e w' => e = .returned (.bool true) ∧ Below w.heap.size w w' := by
  subst heq
  refine sameItems_calls (tis_of (h.sub (List.sublist_append_left _ _)) h1) (tis_of (h.sub ?_) h2) hl
  exact (List.sublist_append_left _ E).trans ((List.sublist_cons_self _ _).trans (List.sublist_append_right _ _))
set_option maxHeartbeats 1000000 in
theorem tells_calls {X : Cx} (hW : ∃ W, Bs W X ∧ Tab W) {g : Nat} {B : Book} {r : Row} {E : Mem} (hr : BkOk X r B.l) (fr dv : Bool) (hn : bsz B ≤ 1000000000) (heq : told B.s fr dv = B.l) :
    ∀ w, Cl X (bkS g B r E) w → Calls Tryz.prog 19 #[.pointer (some ⟨g, 0, none⟩), .bool fr, .bool dv] w fun e w' => e = .returned (.bool true) ∧ Cl X (bkS g B r E) w' := by
  intro w hw
  refine enterC 27 hw Tryz.func19 rfl rfl (vs := [.pointer (some ⟨g, 0, none⟩), .bool fr, .bool dv]) rfl ?_
  replace hr := hr.sub 27 hw
  replace hW : ∃ W, Bs W (X.sub 27 w) ∧ Tab W := by obtain ⟨W, h1, h2⟩ := hW; exact ⟨W, h1.sub hw 27, h2⟩
  unfold bsz at hn
  have hln : B.l.length ≤ 1000000000000 := by omega
  conv => arg 2; arg 2; whnf
  have hsub : ∀ {X' : Cx} {m' : Mem} w', Cl X' (bkB g (ba B.s) (r.val B.l.length) :: m') w' → Cl X' [bkB g (ba B.s) (r.val B.l.length)] w' := fun w' h => h.less (List.Sublist.cons_cons _ (List.nil_sublist _))
  cases hbg : decide (((ba B.s).size : Int) > 65536)
  all_goals
    repeat' (first | first | (show PJ _ (Code.wp _ _ _) _ _; first | refine cseq ?_ | refine rtext ?_ | refine cret ?_ | (show PJ _ (Code.wp _ (Code.region 1 _ true) _) _ _; refine rany [bkB g (ba B.s) (r.val B.l.length)] mixed ?_)) | refine jnil ?_ | (first | refine js rfl rfl ?_ | refine jas_ rfl rfl rfl ?_ | (show Jo _ (.call _); first | (show Jo _ (.call ⟨.value (.func 16), _, _⟩); refine jcall (ι := Row) (v := fun r' => r'.val (told B.s fr dv).length) (m' := fun r' => r'.mem ((told B.s fr dv).flatMap tiC) 42 ++ bkS g B r E) (fun r' => r'.ok 0 5 (told B.s fr dv).length ((told B.s fr dv).flatMap tiC)) bo16 rfl rfl rfl (parseB hW B.s fr dv (by omega)) (fun r1 h1 => ?_)) | (show Jo _ (.call ⟨.value (.func 30), _, _⟩); refine jcallq bo30 rfl rfl rfl (quietC fun w' hw' => sameB hw'.1 h1 hr.ok heq hln) ?_))) | first | (show JT _ _ _ _ _ _ [] _ _; refine jtnil ?_) | (first | refine jts rfl rfl ?_ | (show JTo _ (.move _); refine jty (ymove rfl) rfl rfl ?_) | (show JTo _ (.nilCheck _); refine jty (ynil rfl) rfl rfl ?_) | (show JTo _ (.fieldAddr _ _ _); refine jty (yfield rfl (by first | exact fb29_0 | exact fb29_1) rfl) rfl rfl ?_) | (show JTo _ (.load _ _); refine jty (yload (i := 0) rfl rfl rfl one9') rfl rfl ?_) | (show JTo _ (.assign _); refine jty (yassign rfl) rfl rfl ?_) | (show JTo _ (.binOp _ _ _ _ _); ((show JTo _ (.binOp .gtr _ _ _ _); refine jty (ygtr rfl rfl hbg) rfl rfl ?_))) | (show JTo _ (.pick _ _ _); first | refine jty (ypick1 rfl rfl) rfl rfl ?_ | refine jty (ypick0 rfl rfl) rfl rfl ?_) | (show JTo _ (.call _); ((show JTo _ (.call ⟨.builtin .len, _, _⟩); refine jty (ylens rfl Lw.und9) rfl rfl ?_)))) | first | (show PJ _ (WKeep _ _ _) _ _; refine jas (fun _ h => by first | exact hsub _ h | exact h.less ((List.Sublist.cons_cons _ (List.nil_sublist _)).trans (List.sublist_append_right _ _))) ?_) | (show PJ _ (WIf _ _ _) _ _; refine jaw ?_) | (show PJ _ (WAny _ _ _ _ _ _ _) _ _; first | refine jaq (g' := 4) (D := []) [0, 1, 2, 3, 4, 5, 6, 7, 8, 9, 10, 11, 12, 14, 15, 16, 17] rfl (fun _ h => by (exact hsub _ h)) (by kernel_rfl) (by kernel_rfl) rfl (fun _ d _ _ _ h => by cases d <;> exact h) rfl ?_ | refine ja1 (g' := 3) (D := [0, 1, 2, 3, 4, 5, 6, 7, 8, 9, 10, 11, 12, 14, 15, 16, 17]) 13 rfl rfl (by kernel_rfl) rfl ?_ | refine ja1 (g' := 2) (D := [0, 1, 2, 3, 4, 5, 6, 7, 8, 9, 10, 11, 12, 14, 15, 16, 17, 13]) 18 rfl rfl (by kernel_rfl) rfl ?_ | refine jaq (g' := 0) (D := [0, 1, 2, 3, 4, 5, 6, 7, 8, 9, 10, 11, 12, 14, 15, 16, 17, 13, 18]) [19, 20] rfl (fun _ h => by first | exact hsub _ h | exact h.less ((List.Sublist.cons_cons _ (List.nil_sublist _)).trans (List.sublist_append_right _ _))) (by kernel_rfl) (by kernel_rfl) rfl (fun _ d _ _ _ h => by cases d <;> exact h) rfl ?_ | refine jadone rfl (by kernel_rfl) ?_))
    all_goals first | exact ret1 rfl rfl rfl (fun w' hw' => ⟨rfl, hw.up hw'⟩) | exact ret1 rfl rfl rfl (fun w' hw' => ⟨rfl, (hw.up hw').less (List.sublist_append_right _ _)⟩)
end Go.Proofs.YtkehggbmpdacpaaGreatDoor.Pg
namespace Go.Proofs.YtkehggbmpdacpaaGreatDoor.Pg
open Go.Rx hiding bt
open Go.Lib
open Go.RowKit
theorem tabIs_of_reads {P : Program} {W : World} {name : String} {k : IntKind} {zs : List Int} {g : Nat} {t e : TypeId} {n : Nat}
    (hg : P.globalNamed name = some g) (hty : (P.globals[g]?).map (·.type) = some t) (ht : P.underlying t = some (.array n e)) (he : P.underlying e = some (.int k)) (hce : P.cellsOf e = 1) (hct : P.cellsOf t = n)
    (h : VarReads P W name (tabData k zs)) : TabIs P W name k zs := by
  obtain ⟨g', t', cs, fuel, p, hg', ht', hvar, hd⟩ := h
  obtain rfl := Option.some.inj (hg.symm.trans hg')
  obtain rfl := Option.some.inj (hty.symm.trans ht')
  unfold TabIs
  rw [hvar, ← cells_of_tab ht he hce hct hd]
def renU : Go.Shelf.Ren := ⟨fun n => n, fun | 119 => 152 | 138 => 169 | 139 => 170 | n => n, fun | 3 => 2 | 4 => 3 | n => n⟩
theorem tab_of_laid {W : World} (hL : laidMetH Tryz.prog [("unicode/utf8.acceptRanges", Rows.laid_unicode_utf8_acceptRanges), ("unicode.White_Space", Rows.laid_unicode_White_Space), ("unicode.properties", Rows.laid_unicode_properties), ("bytes.ErrTooLarge", Rows.laid_bytes_ErrTooLarge), ("bytes.asciiSpace", Rows.laid_bytes_asciiSpace), ("unicode.Digit", Rows.laid_unicode_Digit), ("unicode.Letter", Rows.laid_unicode_Letter), ("unicode/utf8.first", Rows.laid_unicode_utf8_first)] W) : Tab W := by
  rw [MakeChecks.laidMetH_plain _ _ _ (by kernel_rfl)] at hL
  have h0 := Lib.laidMet.reads hL (n := "unicode/utf8.acceptRanges") (d := Rows.laid_unicode_utf8_acceptRanges) (.head _)
  have h1 := Lib.laidMet.reads hL (n := "unicode.White_Space") (d := Rows.laid_unicode_White_Space) (.tail _ (.head _))
  have h2 := Lib.laidMet.reads hL (n := "unicode.properties") (d := Rows.laid_unicode_properties) (.tail _ (.tail _ (.head _)))
  have h4 := Lib.laidMet.reads hL (n := "bytes.asciiSpace") (d := Rows.laid_bytes_asciiSpace) (.tail _ (.tail _ (.tail _ (.tail _ (.head _)))))
  have h5 := Lib.laidMet.reads hL (n := "unicode.Digit") (d := Rows.laid_unicode_Digit) (.tail _ (.tail _ (.tail _ (.tail _ (.tail _ (.head _))))))
  have h6 := Lib.laidMet.reads hL (n := "unicode.Letter") (d := Rows.laid_unicode_Letter) (.tail _ (.tail _ (.tail _ (.tail _ (.tail _ (.tail _ (.head _)))))))
  have h7 := Lib.laidMet.reads hL (n := "unicode/utf8.first") (d := Rows.laid_unicode_utf8_first) (.tail _ (.tail _ (.tail _ (.tail _ (.tail _ (.tail _ (.tail _ (.head _))))))))
  have e0 : (Rows.laid_unicode_utf8_acceptRanges : DataW Unit) = acceptData := by kernel_rfl
  have e1 : (Rows.laid_unicode_White_Space : DataW Unit) = whiteData := by kernel_rfl
  have e2 : (Rows.laid_unicode_properties : DataW Unit) = tabData .u8 propertiesTab := by kernel_rfl
  have e4 : (Rows.laid_bytes_asciiSpace : DataW Unit) = tabData .u8 asciiSpaceTab := by kernel_rfl
  have e5 : Rows.laid_unicode_Digit = rtabData digitT := Pinned.digit_eq
  have e6 : Rows.laid_unicode_Letter = rtabData letterT := Pinned.letter_eq
  have e7 : Rows.laid_unicode_utf8_first = firstData := Pinned.utf8First_eq
  rw [e0] at h0
  rw [e1] at h1
  rw [e2] at h2
  rw [e4] at h4
  rw [e5] at h5
  rw [e6] at h6
  rw [e7] at h7
  have L : Lays.n261 Tryz.prog Tryz.lays198_ren := { Tryz.lays198 with }
  have X : RExtra Tryz.prog Tryz.lays198_ren := ⟨by kernel_rfl, by kernel_rfl, by kernel_rfl, by kernel_rfl, by kernel_rfl, by kernel_rfl, by kernel_rfl, by kernel_rfl⟩
  have U : U8Types Tryz.prog renU := ⟨by kernel_rfl, by kernel_rfl, by kernel_rfl, by kernel_rfl⟩
  have UX : U8Extra Tryz.prog renU := ⟨by kernel_rfl, by kernel_rfl, by kernel_rfl, by kernel_rfl, by kernel_rfl, by kernel_rfl, by kernel_rfl⟩
  exact ⟨utf8Tabs_of_readsT (ρ := renU) U UX h7 h0,
    tabIs_of_reads (g := 5) (t := 152) (e := 5) (n := 256) (by kernel_rfl) (by kernel_rfl) (by kernel_rfl) (by kernel_rfl) (by kernel_rfl) (by kernel_rfl) h2,
    rvar_of_reads L X (by kernel_rfl) (by kernel_rfl) h6, rvar_of_reads L X (by kernel_rfl) (by kernel_rfl) h5,
    whiteTab_of_reads Tryz.lays199 ⟨by kernel_rfl, by kernel_rfl, by kernel_rfl, by kernel_rfl, by kernel_rfl, by kernel_rfl, by kernel_rfl, by kernel_rfl⟩ h1,
    tabIs_of_reads (g := 0) (t := 152) (e := 5) (n := 256) (by kernel_rfl) (by kernel_rfl) (by kernel_rfl) (by kernel_rfl) (by kernel_rfl) (by kernel_rfl) h4⟩
end Go.Proofs.YtkehggbmpdacpaaGreatDoor.Pg
namespace Go.Proofs.YtkehggbmpdacpaaGreatDoor.Lw
open Go.Rx
open Go.RowKit Go.Proofs.YtkehggbmpdacpaaGreatDoor.Dec0 Go.Proofs.YtkehggbmpdacpaaGreatDoor.Txt0

end Go.Proofs.YtkehggbmpdacpaaGreatDoor.Lw
namespace Go.Proofs.YtkehggbmpdacpaaGreatDoor.Pg
open Go.Rx hiding bt
open Go.RowKit Go.Proofs.YtkehggbmpdacpaaGreatDoor.Dec0 Go.Proofs.YtkehggbmpdacpaaGreatDoor.Lex0
theorem bu29 : Tryz.prog.built 29 [] = some [.string ⟨#[]⟩, .slice none 0 0].toArray := by kernel_rfl
theorem bk0 {X : Cx} : BkOk X .nil b0.l := ⟨⟨rfl, rfl⟩, trivial⟩
end Go.Proofs.YtkehggbmpdacpaaGreatDoor.Pg
namespace Go.Proofs.YtkehggbmpdacpaaGreatDoorW.PrintWords
open Go.RowKit
structure Aside0 (p : Prop) : Prop where mk :: (out : p)
structure Drawn0 (w w' : World) : Prop where mk :: (out : ∃ n, w' = w.drewN n)
def ReadsRow {α : Type} (R : α → List Value → Prop) (size : Nat) (w : World) (A : Option Addr) (n : Nat) (ps : List α) : Prop :=
  ps.length = n ∧ n ≤ 9223372036854775807 ∧ (0 < n → ∃ ad, A = some ad ∧ ∀ j p, ps[j]? = some p → ∃ c, c.length = size ∧ R p c ∧ ∀ i u, c[i]? = some u → w.cell? (ad.add (j * size + i)) = some u)
section
variable {α : Type} {enc : α → Value} {d : α}
def ReadsOf (enc : α → Value) (d : α) (w : World) (A : Option Addr) (n : Nat) (xs : List α) : Prop :=
  xs.length = n ∧ n ≤ 9223372036854775807 ∧ (0 < n → ∃ ad, A = some ad ∧ ∀ j, j < n → w.cell? (ad.add j) = some (enc (xs.getD j d)))
end
structure Kd (α : Type) where
  sz : Nat
  E : List Nat
  K : World → α → List Value → Prop
  M : World → Nat → (Nat → Prop) → α → List Value → Prop
  K_len : ∀ {w x cs}, K w x cs → cs.length = sz
  K_one : ∀ {w x cs}, K w x cs → ∀ u ∈ cs, u.oneCell' = true
  K_below : ∀ {w w1 : World} {x cs}, Below w.heap.size w w1 → K w x cs → K w1 x cs
  K_of_M : ∀ {w base ok x cs}, M w base ok x cs → K w x cs
  M_mono : ∀ {w base ok ok' x cs}, (∀ k, ok k → ok' k) → M w base ok x cs → M w base ok' x cs
  M_bound : ∀ {w : World} {base ok x cs}, M w base ok x cs → M w base (fun k => ok k ∧ base ≤ k ∧ k < w.heap.size ∧ ∃ q, q ∈ E ∧ ∃ cells, w.heap[k]? = some (.cells cells q (0, 0))) x cs
  M_move : ∀ {w w1 : World} {base ok x cs}, (∀ k, ok k → w1.heap[k]? = w.heap[k]?) → M w base ok x cs → M w1 base ok x cs
  M_lower : ∀ {w base base' ok x cs}, base' ≤ base → M w base ok x cs → M w base' ok x cs
namespace Kd
def C {α : Type} (d : Kd α) (w : World) (A : Option Addr) (n : Nat) (xs : List α) : Prop := ReadsRow (d.K w) d.sz w A n xs
def scalar {α : Type} (enc : α → Value) (h1 : ∀ x, (enc x).oneCell' = true) : Kd α where
  sz := 1
  E := []
  K := fun _ x cs => cs = [enc x]
  M := fun _ _ _ x cs => cs = [enc x]
  K_len := fun h => by rw [h]; rfl
  K_one := fun h u hu => by
    rw [h] at hu
    rw [List.mem_singleton.1 hu]
    exact h1 _
  K_below := fun _ h => h
  K_of_M := fun h => h
  M_mono := fun _ h => h
  M_bound := fun h => h
  M_move := fun _ h => h
  M_lower := fun _ h => h
def string : Kd ByteArray := scalar Value.string (fun _ => rfl)
theorem C_of_reads {α : Type} {enc : α → Value} {d : α} {h1 : ∀ x, (enc x).oneCell' = true} {w : World} {A : Option Addr} {n : Nat} {xs : List α} (h : ReadsOf enc d w A n xs) : (scalar enc h1).C w A n xs := by
  refine ⟨h.1, h.2.1, fun hn => ?_⟩
  obtain ⟨ad, e, hc⟩ := h.2.2 hn
  refine ⟨ad, e, fun j p hj => ⟨[enc p], rfl, rfl, fun i u hu => ?_⟩⟩
  obtain ⟨hl, hp⟩ := List.getElem?_eq_some_iff.1 hj
  have h2 := hc j (by have := h.1; omega)
  rw [List.getD_eq_getElem?_getD, hj] at h2
  cases i with
  | zero =>
    have : enc p = u := by simpa using hu
    subst this
    simpa [scalar] using h2
  | succ i => simp at hu
theorem reads_of_C {α : Type} {enc : α → Value} {d : α} {h1 : ∀ x, (enc x).oneCell' = true} {w : World} {A : Option Addr} {n : Nat} {xs : List α} (h : (scalar enc h1).C w A n xs) : ReadsOf enc d w A n xs := by
  refine ⟨h.1, h.2.1, fun hn => ?_⟩
  obtain ⟨ad, e, hc⟩ := h.2.2 hn
  refine ⟨ad, e, fun j hj => ?_⟩
  have hl : j < xs.length := by have := h.1; omega
  obtain ⟨c, _, hK, hcell⟩ := hc j _ (List.getElem?_eq_getElem hl)
  have hK' : c = [enc xs[j]] := hK
  subst hK'
  have := hcell 0 _ rfl
  simpa [scalar, List.getD_eq_getElem?_getD, List.getElem?_eq_getElem hl] using this
end Kd
namespace Kd
structure Mono {α β : Type} (F : Kd α → Kd β) : Prop where
  sz : ∀ d d' : Kd α, d.sz = d'.sz → (F d).sz = (F d').sz
  K : ∀ d d' : Kd α, d.sz = d'.sz → (∀ w x cs, d.K w x cs → d'.K w x cs) → ∀ w x cs, (F d).K w x cs → (F d').K w x cs
  M : ∀ d d' : Kd α, d.sz = d'.sz → (∀ w base ok x cs, d.M w base ok x cs → d'.M w base ok x cs) → ∀ w base ok x cs, (F d).M w base ok x cs → (F d').M w base ok x cs
end Kd
inductive Vals (P : Program) (tmps : Array Value) (w : World) : List ResultVar → List Value → Prop where
  | nil : Vals P tmps w [] []
  | tmp {u : Tmp} {rs : List ResultVar} {vs : List Value} (h : Vals P tmps w rs vs) : Vals P tmps w (.tmp u :: rs) (tmps.getD u undef :: vs)
  | cell {p : Tmp} {ty : TypeId} {rs : List ResultVar} {vs : List Value} (g : Nat) (t : TypeId) (cs : Array Value) (fr : Nat × Nat) (d : TypeDesc)
      (hp : tmps.getD p undef = .pointer (some ⟨g, 0, none⟩)) (hg : w.heap[g]? = some (.cells cs t fr))
      (hu : P.underlying ty = some d) (hd : (match d with | .struct _ | .array _ _ => true | _ => false) = true) (hi : (P.info? ty).map (·.size) = some cs.size)
      (h : Vals P tmps w rs vs) : Vals P tmps w (.cell p ty :: rs) (.agg cs :: vs)
end Go.Proofs.YtkehggbmpdacpaaGreatDoorW.PrintWords
namespace Go.Proofs.YtkehggbmpdacpaaGreatDoorW.PrintWords
open Go.ChangeShapes Go.WideShapes

end Go.Proofs.YtkehggbmpdacpaaGreatDoorW.PrintWords
namespace Go.Proofs.YtkehggbmpdacpaaGreatDoor.Row0
open Go.ChangeShapes Go.WideShapes Go.ChangeAt Go.RowKit Go.Proofs.YtkehggbmpdacpaaGreatDoorW.PrintWords
section
variable {H : Type} {enc : TypeId × Value → H} {P : Program} {W : World}
theorem open_strs {t e : TypeId} {a : Option Addr} {len cap : Nat} {d : DataW H} {ps : List MemPlace}
    (hu : P.underlying t = some (.slice e)) (he : P.underlying e = some .string) (hc : P.cellsOf e = 1)
    (h : DataW.Trod enc P W 0 (fun _ => true) true t (.slice a len cap) d ps) :
    ∃ l : List ByteArray, l.length = len ∧ len ≤ cap ∧ Kd.C Kd.string W a len l := by
  obtain ⟨fuel, hf⟩ := h
  rcases open_strings hu he hc hf with ⟨hcs, _⟩ | ⟨x, l, c, ss, hcs, _, hl, hm, hz, hx, hcell, _⟩
  · simp [Value.cells] at hcs
    obtain ⟨rfl, rfl, rfl⟩ := hcs
    exact ⟨[], rfl, Nat.le_refl _, Kd.C_of_reads (d := ByteArray.empty) (h1 := fun _ => rfl) ⟨rfl, by omega, fun h => by omega⟩⟩
  · simp [Value.cells] at hcs
    obtain ⟨rfl, rfl, rfl⟩ := hcs
    simp only [if_true] at hz
    unfold maxLen at hm
    refine ⟨ss.take len, by simp; omega, hl, Kd.C_of_reads (d := ByteArray.empty) (h1 := fun _ => rfl) ⟨by simp; omega, by omega, fun _ => ⟨x, rfl, fun j hj => ?_⟩⟩⟩
    rw [hcell j (by omega)]
    simp [List.getD, hj]
theorem sized_strs {t e : TypeId} {a : Option Addr} {len cap : Nat} {d : DataW H} {ps : List MemPlace} {ts : List TypeId} {ds : List (DataW H)} {j : Nat}
    (hsz : (DataW.weightsEach P ts ds).all (· ≤ reachBytes) = true) (ht : ts[j]? = some t) (hd : ds[j]? = some d) (hu : P.underlying t = some (.slice e)) (he : P.underlying e = some .string) (hc : P.cellsOf e = 1) (hB : P.bytesOf e = 16)
    (h : DataW.Trod enc P W 0 (fun _ => true) true t (.slice a len cap) d ps) : len ≤ 8796093022208 := by
  obtain ⟨fuel, hf⟩ := h
  rcases open_strings hu he hc hf with ⟨hcs, _⟩ | ⟨x, l, c, ss, hcs, _, hl, hm, hz, hx, hcell, _⟩
  · simp [Value.cells] at hcs
    obtain ⟨rfl, rfl, rfl⟩ := hcs
    omega
  · simp [Value.cells] at hcs
    obtain ⟨rfl, rfl, rfl⟩ := hcs
    obtain ⟨hx, _⟩ := Prod.mk.inj hx
    subst hx
    have z := sized_slice hsz ht hd hu
    rw [hB] at z
    simp only [if_true] at hz
    simp only [strs, List.length_map, List.length_take, List.length_drop, reachBytes] at z
    omega
end
end Go.Proofs.YtkehggbmpdacpaaGreatDoor.Row0
namespace Go.Proofs.YtkehggbmpdacpaaGreatDoor.Lw
open Go.Rx
open Go.RowKit Go.Proofs.YtkehggbmpdacpaaGreatDoorW.PrintWords

end Go.Proofs.YtkehggbmpdacpaaGreatDoor.Lw
