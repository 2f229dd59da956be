/- UNDER WAY: the walk of Scanner.Next. -/
import Derived.Test.YthjddnmfpdcjnaaDoorTag0
import Derived.Test.YthjddnmfpdcjnaaDoorOwnTags
import Derived.Test.YthjddnmfpdcjnaaDoorPLib6x1
import Derived.Test.YthjddnmfpdcjnaaDoorRx
import Derived.Test.YthjddnmfpdcjnaaDoorTagC
import Derived.WalkKit
set_option linter.unusedVariables false
namespace Go.Proofs.YthjddnmfpdcjnaaDoor.NextW
open Go.Rx hiding bt
open Go.RowKit Go.Proofs.YthjddnmfpdcjnaaDoorW.PrintWords Go.Proofs.YthjddnmfpdcjnaaDoor.Tag0 Go.Proofs.YthjddnmfpdcjnaaDoor.TagC Go.Proofs.YthjddnmfpdcjnaaDoor.PLib6

theorem fb49_0 : fieldB Tryd.prog 49 0 = some 0 := by kernel_rfl
theorem fb49_1 : fieldB Tryd.prog 49 1 = some 1 := by kernel_rfl
theorem fb53_0 : fieldB Tryd.prog 53 0 = some 0 := by kernel_rfl
theorem fb53_1 : fieldB Tryd.prog 53 1 = some 1 := by kernel_rfl
theorem fb53_2 : fieldB Tryd.prog 53 2 = some 2 := by kernel_rfl
theorem fb53_3 : fieldB Tryd.prog 53 3 = some 3 := by kernel_rfl
theorem one3 : oneB Tryd.prog 3 = true := by kernel_rfl
theorem one4 : oneB Tryd.prog 4 = true := by kernel_rfl
theorem one9 : oneB Tryd.prog 9 = true := by kernel_rfl
theorem one51 : oneB Tryd.prog 51 = true := by kernel_rfl
theorem und9 : Tryd.prog.underlying 9 = some .string := by kernel_rfl
theorem si3 : (Tryd.prog.info? 3).map (·.size) = some 1 := by kernel_rfl
theorem si4 : (Tryd.prog.info? 4).map (·.size) = some 1 := by kernel_rfl
theorem si9 : (Tryd.prog.info? 9).map (·.size) = some 1 := by kernel_rfl
theorem si51 : (Tryd.prog.info? 51).map (·.size) = some 1 := by kernel_rfl
theorem bt_eq (s : ByteArray) (i : Int) : Rx.bt s i = bt s i := rfl
theorem bo36 : bodyB Tryd.prog 36 = true := by kernel_rfl
theorem bo37 : bodyB Tryd.prog 37 = true := by kernel_rfl
theorem bo38 : bodyB Tryd.prog 38 = true := by kernel_rfl
theorem bo39 : bodyB Tryd.prog 39 = true := by kernel_rfl
theorem bo40 : bodyB Tryd.prog 40 = true := by kernel_rfl
theorem bo41 : bodyB Tryd.prog 41 = true := by kernel_rfl
theorem bo42 : bodyB Tryd.prog 42 = true := by kernel_rfl
theorem ag53 : aggB Tryd.prog 53 4 = true := by kernel_rfl
theorem si53 : (Tryd.prog.info? 53).map (·.size) = some 4 := by kernel_rfl
theorem bu0 : Tryd.prog.built 53 [] = some [.int .i64 0, .string ⟨#[]⟩, .bool false, .int .i64 0].toArray := by kernel_rfl
theorem bu3 (x : Int) : Tryd.prog.built 53 [(3, .int .i64 x)] = some [.int .i64 0, .string ⟨#[]⟩, .bool false, .int .i64 x].toArray := by kernel_rfl
theorem mixed : Tryd.prog.follows .mixedOrders = true := by kernel_rfl


noncomputable def lp (k : Nat) : Code := loopOf Tryd.f29 k

abbrev F4 (g T : Nat) (lim : Nat) : Fr := [(0, .pointer (some ⟨g, 0, none⟩)), (1, .int .i64 lim), (4, .pointer (some ⟨T, 0, none⟩))]
abbrev M2 (g T : Nat) (tk : List Value) (s : ByteArray) (p : Int) : Mem := [(T, tk, 53), (g, [.string s, .int .i64 p], 49)]

set_option maxHeartbeats 4000000 in
set_option maxRecDepth 100000 in
/-- The loop over a name. -/
theorem loop1 (s : ByteArray) (lim p : Nat) (g T : Nat) (tk : List Value) (w : World) (S : Nat → Prop) (hS : S g ∨ w.heap.size ≤ g) (Q : Exit → Act → World → Prop) (v9 : Value)
    (h1 : p ≤ lim) (h2 : lim ≤ s.size) (h3 : s.size ≤ 4294967280)
    (h : PJ ⟨339, [], S, w⟩ (Q (.exit 4)) ((9, v9) :: F4 g T lim) (M2 g T tk s (nameE s lim p : Nat))) :
    PJ ⟨339, [], S, w⟩ ((Code.loop (lp 1)).wp Tryd.prog Q) ((9, v9) :: F4 g T lim) (M2 g T tk s p) := by
  refine cloop (ι := Nat) (fun _ => (9, v9) :: F4 g T lim) (fun p => M2 g T tk s p) (fun n p' => p' ≤ lim ∧ nameE s lim p' = nameE s lim p ∧ n = lim - p') (lim - p) p ⟨h1, rfl, rfl⟩ ?_
  rintro n p' ⟨hp, he, rfl⟩ K hK
  unfold lp loopOf
  conv => arg 2; arg 2; whnf
  rw [nameE] at he
  repeat' (first | (show PJ _ (Code.wp _ _ _) _ _; first | refine cseq ?_ | refine rtext ?_ | refine ctrue rfl ?_ | refine cfalse rfl ?_ | refine cskip ?_ | refine cblk ?_ | refine cret ?_ | refine cexit ?_ | refine csplit' rfl (fun hq => ?_) (fun hq => ?_) | refine rtail (id := 38) 24 mixed (by kernel_rfl) ?_ | refine rtail (id := 30) 12 mixed (by kernel_rfl) ?_ | refine rquiet mixed (by kernel_rfl) ?_) | (show PJ _ (Exit.then _ _ _) _ _; first | refine tnorm ?_ | refine tret ?_ | refine texit ?_) | (show PJ _ (Exit.inBlock _ _ _) _ _; first | refine bnorm ?_ | refine bret ?_ | refine bexit ?_ | refine bother rfl ?_) | (show PJ _ (wpList _ _ _ _) _ _; refine jlist ?_) | (show J _ _ _ _ _ _ [] _ _; refine jnil ?_) | (show J _ _ _ _ _ _ (_ :: _) _ _; first | refine js rfl rfl ?_ | (show J _ _ _ _ _ _ (⟨_, .move _, _, _, _, _⟩ :: _) _ _; refine jy (ymove rfl) rfl rfl ?_) | (show J _ _ _ _ _ _ (⟨_, .nilCheck _, _, _, _, _⟩ :: _) _ _; refine jy (ynil rfl) rfl rfl ?_) | (show J _ _ _ _ _ _ (⟨_, .fieldAddr _ _ _, _, _, _, _⟩ :: _) _ _; refine jy (yfield rfl (by first | exact fb49_0 | exact fb49_1 | exact fb53_0 | exact fb53_1 | exact fb53_2 | exact fb53_3) rfl) rfl rfl ?_) | (show J _ _ _ _ _ _ (⟨_, .load _ _, _, _, _, _⟩ :: _) _ _; first | refine jy (yload (i := 0) rfl rfl rfl (by first | exact one3 | exact one9 | exact one4 | exact one51)) rfl rfl ?_ | refine jy (yload (i := 1) rfl rfl rfl (by first | exact one3 | exact one9 | exact one4 | exact one51)) rfl rfl ?_ | refine jy (yloads (i := 0) rfl rfl (by first | exact ag53)) rfl rfl ?_ ) | (show J _ _ _ _ _ _ (⟨_, .assign _, _, _, _, _⟩ :: _) _ _; refine jy (yassign rfl) rfl rfl ?_) | (show J _ _ _ _ _ _ (⟨_, .binOp _ _ _ _ _, _, _, _, _⟩ :: _) _ _; first  | refine jy (yadd rfl rfl (i64_in (by omega) (by omega))) rfl rfl ?_ | refine jy (ylss rfl rfl (by first | exact decide_eq_true (by omega) | exact decide_eq_false (by omega))) rfl rfl ?_ | refine jlss rfl rfl rfl rfl (fun hq => ?_) (fun hq => ?_) | refine jy (yeql rfl rfl (by first | exact decide_eq_true (by omega) | exact decide_eq_false (by omega))) rfl rfl ?_ | refine jeql rfl rfl rfl rfl (fun hq => ?_) (fun hq => ?_) | refine jy (ygeq rfl rfl (by first | exact decide_eq_true (by omega) | exact decide_eq_false (by omega))) rfl rfl ?_ | refine jgeq rfl rfl rfl rfl (fun hq => ?_) (fun hq => ?_)) | (show J _ _ _ _ _ _ (⟨_, .store _ _ _, _, _, _, _⟩ :: _) _ _; first | refine jstore (i := 0) rfl rfl rfl rfl rfl (by first | exact si3 | exact si9 | exact si51 | exact si4 | exact si53) (by first | exact hS | exact .inr hT) ?_ | refine jstore (i := 1) rfl rfl rfl rfl rfl (by first | exact si3 | exact si9 | exact si51 | exact si4 | exact si53) (by first | exact hS | exact .inr hT) ?_ | refine jstores (i := 0) rfl rfl rfl rfl rfl (by first | exact si3 | exact si9 | exact si51 | exact si4 | exact si53) (.inr hT) ?_ ) | (show J _ _ _ _ _ _ (⟨_, .pick _ _ _, _, _, _, _⟩ :: _) _ _; first | refine jy (ypick1 rfl rfl) rfl rfl ?_ | refine jy (ypick0 rfl rfl) rfl rfl ?_) | (show J _ _ _ _ _ _ (⟨_, .unOp _ _ _, _, _, _, _⟩ :: _) _ _; refine jy (ynot rfl rfl) rfl rfl ?_) | (show J _ _ _ _ _ _ (⟨_, .index _ _ _, _, _, _, _⟩ :: _) _ _; refine jy (yidx (c := bt _ _) rfl rfl und9 (by omega) (by omega) rfl) rfl rfl ?_) | (show J _ _ _ _ _ _ (⟨_, .slice _ _ _ _ _, _, _, _, _⟩ :: _) _ _; refine jy (yslice rfl rfl rfl und9 (by omega) (by omega) (by omega) rfl) rfl rfl ?_) | (show J _ _ _ _ _ _ (⟨_, .call _, _, _, _, _⟩ :: _) _ _; first | refine jcallq bo40 rfl rfl rfl (nendC _ _ _) ?_ | refine jcallq bo42 rfl rfl rfl (spaceC _ _ _) ?_ | refine jcallq bo39 rfl rfl rfl (ltrC _ _ _) ?_) | (show J _ _ _ _ _ _ (⟨_, .extract _ _, _, _, _, _⟩ :: _) _ _; refine jy (yextractL rfl rfl) rfl rfl ?_)  | (show J _ _ _ _ _ _ (⟨_, .build _ _, _, _, _, _⟩ :: _) _ _; refine jy (ybuild rfl (by first | exact bu0 | exact bu3 _)) rfl rfl ?_)))
  · rw [if_pos (by omega), if_neg (by simpa using hq)] at he
    exact fin (hK (lim - (p' + 1)) (p' + 1) (by omega) ⟨by omega, he, rfl⟩) ⟨rfl, rfl, rfl, rfl, trivial⟩ rfl
  · rw [if_pos (by omega), if_pos (by simpa using hq)] at he
    subst he
    exact fin h ⟨rfl, rfl, rfl, rfl, trivial⟩ rfl
  · rw [if_neg (by omega)] at he
    subst he
    exact fin h ⟨rfl, rfl, rfl, rfl, trivial⟩ rfl

set_option maxHeartbeats 4000000 in
set_option maxRecDepth 100000 in
/-- The loop over blanks. -/
theorem loop3 (s : ByteArray) (lim p : Nat) (g T : Nat) (tk : List Value) (w : World) (S : Nat → Prop) (hS : S g ∨ w.heap.size ≤ g) (Q : Exit → Act → World → Prop)
    (h1 : p ≤ lim) (h2 : lim ≤ s.size) (h3 : s.size ≤ 4294967280)
    (h : PJ ⟨339, [], S, w⟩ (Q (.exit 9)) (F4 g T lim) (M2 g T tk s (blanksE s lim p : Nat))) :
    PJ ⟨339, [], S, w⟩ ((Code.loop (lp 3)).wp Tryd.prog Q) (F4 g T lim) (M2 g T tk s p) := by
  refine cloop (ι := Nat) (fun _ => F4 g T lim) (fun p => M2 g T tk s p) (fun n p' => p' ≤ lim ∧ blanksE s lim p' = blanksE s lim p ∧ n = lim - p') (lim - p) p ⟨h1, rfl, rfl⟩ ?_
  rintro n p' ⟨hp, he, rfl⟩ K hK
  unfold lp loopOf
  conv => arg 2; arg 2; whnf
  rw [blanksE] at he
  repeat' (first | (show PJ _ (Code.wp _ _ _) _ _; first | refine cseq ?_ | refine rtext ?_ | refine ctrue rfl ?_ | refine cfalse rfl ?_ | refine cskip ?_ | refine cblk ?_ | refine cret ?_ | refine cexit ?_ | refine csplit' rfl (fun hq => ?_) (fun hq => ?_) | refine rtail (id := 38) 24 mixed (by kernel_rfl) ?_ | refine rtail (id := 30) 12 mixed (by kernel_rfl) ?_ | refine rquiet mixed (by kernel_rfl) ?_) | (show PJ _ (Exit.then _ _ _) _ _; first | refine tnorm ?_ | refine tret ?_ | refine texit ?_) | (show PJ _ (Exit.inBlock _ _ _) _ _; first | refine bnorm ?_ | refine bret ?_ | refine bexit ?_ | refine bother rfl ?_) | (show PJ _ (wpList _ _ _ _) _ _; refine jlist ?_) | (show J _ _ _ _ _ _ [] _ _; refine jnil ?_) | (show J _ _ _ _ _ _ (_ :: _) _ _; first | refine js rfl rfl ?_ | (show J _ _ _ _ _ _ (⟨_, .move _, _, _, _, _⟩ :: _) _ _; refine jy (ymove rfl) rfl rfl ?_) | (show J _ _ _ _ _ _ (⟨_, .nilCheck _, _, _, _, _⟩ :: _) _ _; refine jy (ynil rfl) rfl rfl ?_) | (show J _ _ _ _ _ _ (⟨_, .fieldAddr _ _ _, _, _, _, _⟩ :: _) _ _; refine jy (yfield rfl (by first | exact fb49_0 | exact fb49_1 | exact fb53_0 | exact fb53_1 | exact fb53_2 | exact fb53_3) rfl) rfl rfl ?_) | (show J _ _ _ _ _ _ (⟨_, .load _ _, _, _, _, _⟩ :: _) _ _; first | refine jy (yload (i := 0) rfl rfl rfl (by first | exact one3 | exact one9 | exact one4 | exact one51)) rfl rfl ?_ | refine jy (yload (i := 1) rfl rfl rfl (by first | exact one3 | exact one9 | exact one4 | exact one51)) rfl rfl ?_ | refine jy (yloads (i := 0) rfl rfl (by first | exact ag53)) rfl rfl ?_ ) | (show J _ _ _ _ _ _ (⟨_, .assign _, _, _, _, _⟩ :: _) _ _; refine jy (yassign rfl) rfl rfl ?_) | (show J _ _ _ _ _ _ (⟨_, .binOp _ _ _ _ _, _, _, _, _⟩ :: _) _ _; first  | refine jy (yadd rfl rfl (i64_in (by omega) (by omega))) rfl rfl ?_ | refine jy (ylss rfl rfl (by first | exact decide_eq_true (by omega) | exact decide_eq_false (by omega))) rfl rfl ?_ | refine jlss rfl rfl rfl rfl (fun hq => ?_) (fun hq => ?_) | refine jy (yeql rfl rfl (by first | exact decide_eq_true (by omega) | exact decide_eq_false (by omega))) rfl rfl ?_ | refine jeql rfl rfl rfl rfl (fun hq => ?_) (fun hq => ?_) | refine jy (ygeq rfl rfl (by first | exact decide_eq_true (by omega) | exact decide_eq_false (by omega))) rfl rfl ?_ | refine jgeq rfl rfl rfl rfl (fun hq => ?_) (fun hq => ?_)) | (show J _ _ _ _ _ _ (⟨_, .store _ _ _, _, _, _, _⟩ :: _) _ _; first | refine jstore (i := 0) rfl rfl rfl rfl rfl (by first | exact si3 | exact si9 | exact si51 | exact si4 | exact si53) (by first | exact hS | exact .inr hT) ?_ | refine jstore (i := 1) rfl rfl rfl rfl rfl (by first | exact si3 | exact si9 | exact si51 | exact si4 | exact si53) (by first | exact hS | exact .inr hT) ?_ | refine jstores (i := 0) rfl rfl rfl rfl rfl (by first | exact si3 | exact si9 | exact si51 | exact si4 | exact si53) (.inr hT) ?_ ) | (show J _ _ _ _ _ _ (⟨_, .pick _ _ _, _, _, _, _⟩ :: _) _ _; first | refine jy (ypick1 rfl rfl) rfl rfl ?_ | refine jy (ypick0 rfl rfl) rfl rfl ?_) | (show J _ _ _ _ _ _ (⟨_, .unOp _ _ _, _, _, _, _⟩ :: _) _ _; refine jy (ynot rfl rfl) rfl rfl ?_) | (show J _ _ _ _ _ _ (⟨_, .index _ _ _, _, _, _, _⟩ :: _) _ _; refine jy (yidx (c := bt _ _) rfl rfl und9 (by omega) (by omega) rfl) rfl rfl ?_) | (show J _ _ _ _ _ _ (⟨_, .slice _ _ _ _ _, _, _, _, _⟩ :: _) _ _; refine jy (yslice rfl rfl rfl und9 (by omega) (by omega) (by omega) rfl) rfl rfl ?_) | (show J _ _ _ _ _ _ (⟨_, .call _, _, _, _, _⟩ :: _) _ _; first | refine jcallq bo40 rfl rfl rfl (nendC _ _ _) ?_ | refine jcallq bo42 rfl rfl rfl (spaceC _ _ _) ?_ | refine jcallq bo39 rfl rfl rfl (ltrC _ _ _) ?_) | (show J _ _ _ _ _ _ (⟨_, .extract _ _, _, _, _, _⟩ :: _) _ _; refine jy (yextractL rfl rfl) rfl rfl ?_)  | (show J _ _ _ _ _ _ (⟨_, .build _ _, _, _, _, _⟩ :: _) _ _; refine jy (ybuild rfl (by first | exact bu0 | exact bu3 _)) rfl rfl ?_)))
  · rw [if_pos (by omega), if_pos (by simpa using hq)] at he
    exact fin (hK (lim - (p' + 1)) (p' + 1) (by omega) ⟨by omega, he, rfl⟩) ⟨rfl, rfl, rfl, trivial⟩ rfl
  · rw [if_pos (by omega), if_neg (by simpa using hq)] at he
    subst he
    exact fin h ⟨rfl, rfl, rfl, trivial⟩ rfl
  · rw [if_neg (by omega)] at he
    subst he
    exact fin h ⟨rfl, rfl, rfl, trivial⟩ rfl

abbrev tk (ty : Int) (nm : ByteArray) (self : Bool) (st : Int) : List Value := [.int .i64 ty, .string nm, .bool self, .int .i64 st]
set_option maxHeartbeats 8000000 in
set_option maxRecDepth 100000 in
/-- The loop over attributes. -/
theorem loop2 (s : ByteArray) (lim p : Nat) (g T : Nat) (ty : Int) (nm : ByteArray) (start : Int) (st self : Bool) (w : World) (S : Nat → Prop) (hS : S g ∨ w.heap.size ≤ g) (hT : w.heap.size ≤ T) (Q : Exit → Act → World → Prop)
    (hty : ty = if st then 1 else 2) (h1 : p ≤ lim) (h2 : lim ≤ s.size) (h3 : s.size ≤ 4294967280)
    (hr : PJ ⟨339, [], S, w⟩ (Q .ret) ((5, .bool true) :: F4 g T lim) (M2 g T (tk ty nm (attrs s lim st p self).2 start) s ((attrs s lim st p self).1 : Nat)))
    (h : PJ ⟨339, [], S, w⟩ (Q (.exit 6)) (F4 g T lim) (M2 g T (tk ty nm (attrs s lim st p self).2 start) s ((attrs s lim st p self).1 : Nat))) :
    PJ ⟨339, [], S, w⟩ ((Code.loop (lp 2)).wp Tryd.prog Q) (F4 g T lim) (M2 g T (tk ty nm self start) s p) := by
  refine cloop (ι := Nat × Bool) (fun _ => F4 g T lim) (fun i => M2 g T (tk ty nm i.2 start) s i.1) (fun n i => i.1 ≤ lim ∧ attrs s lim st i.1 i.2 = attrs s lim st p self ∧ n = lim - i.1) (lim - p) (p, self) ⟨h1, rfl, rfl⟩ ?_
  rintro n ⟨p', self'⟩ ⟨hp, he, rfl⟩ K hK
  unfold lp loopOf
  conv => arg 2; arg 2; whnf
  dsimp only at hp he hK ⊢
  rw [attrs] at he
  repeat' (first | (show PJ _ (Code.wp _ _ _) _ _; first | refine cseq ?_ | refine rtext ?_ | refine ctrue rfl ?_ | refine cfalse rfl ?_ | refine cskip ?_ | refine cblk ?_ | refine cret ?_ | refine cexit ?_ | refine csplit' rfl (fun hq => ?_) (fun hq => ?_) | refine rtail (id := 38) 24 mixed (by kernel_rfl) ?_ | refine rtail (id := 30) 12 mixed (by kernel_rfl) ?_ | refine rquiet mixed (by kernel_rfl) ?_) | (show PJ _ (Exit.then _ _ _) _ _; first | refine tnorm ?_ | refine tret ?_ | refine texit ?_) | (show PJ _ (Exit.inBlock _ _ _) _ _; first | refine bnorm ?_ | refine bret ?_ | refine bexit ?_ | refine bother rfl ?_) | (show PJ _ (wpList _ _ _ _) _ _; refine jlist ?_) | (show J _ _ _ _ _ _ [] _ _; refine jnil ?_) | (show J _ _ _ _ _ _ (_ :: _) _ _; first | refine js rfl rfl ?_ | (show J _ _ _ _ _ _ (⟨_, .move _, _, _, _, _⟩ :: _) _ _; refine jy (ymove rfl) rfl rfl ?_) | (show J _ _ _ _ _ _ (⟨_, .nilCheck _, _, _, _, _⟩ :: _) _ _; refine jy (ynil rfl) rfl rfl ?_) | (show J _ _ _ _ _ _ (⟨_, .fieldAddr _ _ _, _, _, _, _⟩ :: _) _ _; refine jy (yfield rfl (by first | exact fb49_0 | exact fb49_1 | exact fb53_0 | exact fb53_1 | exact fb53_2 | exact fb53_3) rfl) rfl rfl ?_) | (show J _ _ _ _ _ _ (⟨_, .load _ _, _, _, _, _⟩ :: _) _ _; first | refine jy (yload (i := 0) rfl rfl rfl (by first | exact one3 | exact one9 | exact one4 | exact one51)) rfl rfl ?_ | refine jy (yload (i := 1) rfl rfl rfl (by first | exact one3 | exact one9 | exact one4 | exact one51)) rfl rfl ?_ | refine jy (yloads (i := 0) rfl rfl (by first | exact ag53)) rfl rfl ?_ ) | (show J _ _ _ _ _ _ (⟨_, .assign _, _, _, _, _⟩ :: _) _ _; refine jy (yassign rfl) rfl rfl ?_) | (show J _ _ _ _ _ _ (⟨_, .binOp _ _ _ _ _, _, _, _, _⟩ :: _) _ _; first | refine jy (yadd (c := ((p' + 1 : Nat) : Int)) rfl rfl (by rw [i64_in (by omega) (by omega)]; omega)) rfl rfl ?_ | refine jy (yadd rfl rfl (i64_in (by omega) (by omega))) rfl rfl ?_ | refine jy (ylss rfl rfl (by first | exact decide_eq_true (by omega) | exact decide_eq_false (by omega))) rfl rfl ?_ | refine jlss rfl rfl rfl rfl (fun hq => ?_) (fun hq => ?_) | refine jy (yeql rfl rfl (by first | exact decide_eq_true (by omega) | exact decide_eq_false (by omega))) rfl rfl ?_ | refine jeql rfl rfl rfl rfl (fun hq => ?_) (fun hq => ?_) | refine jy (ygeq rfl rfl (by first | exact decide_eq_true (by omega) | exact decide_eq_false (by omega))) rfl rfl ?_ | refine jgeq rfl rfl rfl rfl (fun hq => ?_) (fun hq => ?_)) | (show J _ _ _ _ _ _ (⟨_, .store _ _ _, _, _, _, _⟩ :: _) _ _; first | refine jstore (i := 0) rfl rfl rfl rfl rfl (by first | exact si3 | exact si9 | exact si51 | exact si4 | exact si53) (by first | exact hS | exact .inr hT) ?_ | refine jstore (i := 1) rfl rfl rfl rfl rfl (by first | exact si3 | exact si9 | exact si51 | exact si4 | exact si53) (by first | exact hS | exact .inr hT) ?_ | refine jstores (i := 0) rfl rfl rfl rfl rfl (by first | exact si3 | exact si9 | exact si51 | exact si4 | exact si53) (.inr hT) ?_ ) | (show J _ _ _ _ _ _ (⟨_, .pick _ _ _, _, _, _, _⟩ :: _) _ _; first | refine jy (ypick1 rfl rfl) rfl rfl ?_ | refine jy (ypick0 rfl rfl) rfl rfl ?_) | (show J _ _ _ _ _ _ (⟨_, .unOp _ _ _, _, _, _, _⟩ :: _) _ _; refine jy (ynot rfl rfl) rfl rfl ?_) | (show J _ _ _ _ _ _ (⟨_, .index _ _ _, _, _, _, _⟩ :: _) _ _; refine jy (yidx (c := bt _ _) rfl rfl und9 (by omega) (by omega) rfl) rfl rfl ?_) | (show J _ _ _ _ _ _ (⟨_, .slice _ _ _ _ _, _, _, _, _⟩ :: _) _ _; refine jy (yslice rfl rfl rfl und9 (by omega) (by omega) (by omega) rfl) rfl rfl ?_) | (show J _ _ _ _ _ _ (⟨_, .call _, _, _, _, _⟩ :: _) _ _; first | refine jcallq bo40 rfl rfl rfl (nendC _ _ _) ?_ | refine jcallq bo42 rfl rfl rfl (spaceC _ _ _) ?_ | refine jcallq bo39 rfl rfl rfl (ltrC _ _ _) ?_) | (show J _ _ _ _ _ _ (⟨_, .extract _ _, _, _, _, _⟩ :: _) _ _; refine jy (yextractL rfl rfl) rfl rfl ?_)  | (show J _ _ _ _ _ _ (⟨_, .build _ _, _, _, _, _⟩ :: _) _ _; refine jy (ybuild rfl (by first | exact bu0 | exact bu3 _)) rfl rfl ?_)))
  · rw [dif_pos (by omega), if_pos hq] at he
    rw [← he] at hr
    exact fin hr ⟨rfl, rfl, rfl, rfl, trivial⟩ rfl
  · rw [dif_pos (by omega), if_neg (by omega), if_pos (by omega)] at he
    refine fin (hK (lim - (p' + 1)) (p' + 1, true) (by omega) ⟨by dsimp only; omega, ?_, rfl⟩) ⟨rfl, rfl, rfl, trivial⟩ rfl
    rw [← he]
    cases st with
    | true => rw [show (true && decide (p' + 1 < lim) && (bt s ((p' + 1 : Nat) : Int) == 62)) = true by rw [decide_eq_true (by omega), beq_iff_eq.mpr hq]; rfl]
    | false => simp at hty; omega
  · rw [dif_pos (by omega), if_neg (by omega), if_pos (by omega)] at he
    refine fin (hK (lim - (p' + 1)) (p' + 1, false) (by omega) ⟨by dsimp only; omega, ?_, rfl⟩) ⟨rfl, rfl, rfl, trivial⟩ rfl
    rw [← he]
    cases st with
    | true => rw [show (true && decide (p' + 1 < lim) && (bt s ((p' + 1 : Nat) : Int) == 62)) = false by rw [decide_eq_true (by omega), beq_eq_false_iff_ne.mpr hq]; rfl]
    | false => simp at hty; omega
  · rw [dif_pos (by omega), if_neg (by omega), if_pos (by omega)] at he
    refine fin (hK (lim - (p' + 1)) (p' + 1, false) (by omega) ⟨by dsimp only; omega, ?_, rfl⟩) ⟨rfl, rfl, rfl, trivial⟩ rfl
    rw [← he]
    simp [show ¬ p' + 1 < lim by omega]
  · rw [dif_pos (by omega), if_neg (by omega), if_pos (by omega)] at he
    refine fin (hK (lim - (p' + 1)) (p' + 1, false) (by omega) ⟨by dsimp only; omega, ?_, rfl⟩) ⟨rfl, rfl, rfl, trivial⟩ rfl
    rw [← he]
    cases st with
    | true => simp at hty; omega
    | false => simp
  · rw [dif_pos (by omega), if_neg (by omega), if_neg (by omega), if_pos (by omega)] at he
    have hb := blanksE_ge s lim (p' + 1) (by omega)
    refine fin (loop3 s lim (p' + 1) g T _ w S hS _ (by omega) h2 h3 ?_) ⟨rfl, rfl, rfl, trivial⟩ rfl
    generalize blanksE s lim (p' + 1) = b at hb he ⊢
    have hg := fun (h : b < lim) => findB_ge s lim (bt s b) (b + 1) (by omega)
    by_cases hf : findB s lim (bt s b) (b + 1) = lim
    · have hv : idxV s lim (bt s b) (b + 1) = -1 := by unfold idxV; rw [if_pos hf]
      have e1 : b < lim → (bt s b = 34 ∨ bt s b = 39) → valueE s lim b = lim := fun h h' => by unfold valueE; rw [if_pos h, if_pos h', if_pos hf]
      have e2 : ¬ (b < lim ∧ (bt s b = 34 ∨ bt s b = 39)) → valueE s lim b = b := fun h => by unfold valueE; by_cases h' : b < lim; rw [if_pos h', if_neg (fun q => h ⟨h', q⟩)]; rw [if_neg h']
      clear hg
      repeat' (first | (show PJ _ (Code.wp _ _ _) _ _; first | refine cseq ?_ | refine rtext ?_ | refine ctrue rfl ?_ | refine cfalse rfl ?_ | refine cskip ?_ | refine cblk ?_ | refine cret ?_ | refine cexit ?_ | refine csplit' rfl (fun hq => ?_) (fun hq => ?_) | refine rtail (id := 38) 24 mixed (by kernel_rfl) ?_ | refine rtail (id := 30) 12 mixed (by kernel_rfl) ?_ | refine rquiet mixed (by kernel_rfl) ?_) | (show PJ _ (Exit.then _ _ _) _ _; first | refine tnorm ?_ | refine tret ?_ | refine texit ?_) | (show PJ _ (Exit.inBlock _ _ _) _ _; first | refine bnorm ?_ | refine bret ?_ | refine bexit ?_ | refine bother rfl ?_) | (show PJ _ (wpList _ _ _ _) _ _; refine jlist ?_) | (show J _ _ _ _ _ _ [] _ _; refine jnil ?_) | (show J _ _ _ _ _ _ (_ :: _) _ _; first | refine js rfl rfl ?_ | (show J _ _ _ _ _ _ (⟨_, .move _, _, _, _, _⟩ :: _) _ _; refine jy (ymove rfl) rfl rfl ?_) | (show J _ _ _ _ _ _ (⟨_, .nilCheck _, _, _, _, _⟩ :: _) _ _; refine jy (ynil rfl) rfl rfl ?_) | (show J _ _ _ _ _ _ (⟨_, .fieldAddr _ _ _, _, _, _, _⟩ :: _) _ _; refine jy (yfield rfl (by first | exact fb49_0 | exact fb49_1 | exact fb53_0 | exact fb53_1 | exact fb53_2 | exact fb53_3) rfl) rfl rfl ?_) | (show J _ _ _ _ _ _ (⟨_, .load _ _, _, _, _, _⟩ :: _) _ _; first | refine jy (yload (i := 0) rfl rfl rfl (by first | exact one3 | exact one9 | exact one4 | exact one51)) rfl rfl ?_ | refine jy (yload (i := 1) rfl rfl rfl (by first | exact one3 | exact one9 | exact one4 | exact one51)) rfl rfl ?_ | refine jy (yloads (i := 0) rfl rfl (by first | exact ag53)) rfl rfl ?_ ) | (show J _ _ _ _ _ _ (⟨_, .assign _, _, _, _, _⟩ :: _) _ _; refine jy (yassign rfl) rfl rfl ?_) | (show J _ _ _ _ _ _ (⟨_, .binOp _ _ _ _ _, _, _, _, _⟩ :: _) _ _; first | refine jy (yadd (c := ((b + 1 : Nat) : Int)) rfl rfl (by rw [i64_in (by omega) (by omega)]; omega)) rfl rfl ?_ | refine jy (yadd rfl rfl (i64_in (by omega) (by omega))) rfl rfl ?_ | refine jy (ylss rfl rfl (by first | exact decide_eq_true (by omega) | exact decide_eq_false (by omega))) rfl rfl ?_ | refine jlss rfl rfl rfl rfl (fun hq => ?_) (fun hq => ?_) | refine jy (yeql rfl rfl (by first | exact decide_eq_true (by omega) | exact decide_eq_false (by omega))) rfl rfl ?_ | refine jeql rfl rfl rfl rfl (fun hq => ?_) (fun hq => ?_) | refine jy (ygeq rfl rfl (by first | exact decide_eq_true (by omega) | exact decide_eq_false (by omega))) rfl rfl ?_ | refine jgeq rfl rfl rfl rfl (fun hq => ?_) (fun hq => ?_)) | (show J _ _ _ _ _ _ (⟨_, .store _ _ _, _, _, _, _⟩ :: _) _ _; first | refine jstore (i := 0) rfl rfl rfl rfl rfl (by first | exact si3 | exact si9 | exact si51 | exact si4 | exact si53) (by first | exact hS | exact .inr hT) ?_ | refine jstore (i := 1) rfl rfl rfl rfl rfl (by first | exact si3 | exact si9 | exact si51 | exact si4 | exact si53) (by first | exact hS | exact .inr hT) ?_ | refine jstores (i := 0) rfl rfl rfl rfl rfl (by first | exact si3 | exact si9 | exact si51 | exact si4 | exact si53) (.inr hT) ?_ ) | (show J _ _ _ _ _ _ (⟨_, .pick _ _ _, _, _, _, _⟩ :: _) _ _; first | refine jy (ypick1 rfl rfl) rfl rfl ?_ | refine jy (ypick0 rfl rfl) rfl rfl ?_) | (show J _ _ _ _ _ _ (⟨_, .unOp _ _ _, _, _, _, _⟩ :: _) _ _; refine jy (ynot rfl rfl) rfl rfl ?_) | (show J _ _ _ _ _ _ (⟨_, .index _ _ _, _, _, _, _⟩ :: _) _ _; refine jy (yidx (c := bt _ _) rfl rfl und9 (by omega) (by omega) rfl) rfl rfl ?_) | (show J _ _ _ _ _ _ (⟨_, .slice _ _ _ _ _, _, _, _, _⟩ :: _) _ _; refine jy (yslice rfl rfl rfl und9 (by omega) (by omega) (by omega) rfl) rfl rfl ?_) | (show J _ _ _ _ _ _ (⟨_, .call _, _, _, _, _⟩ :: _) _ _; first | (refine jcallq bo36 rfl rfl rfl (idxC _ _ s lim (b + 1) _ (bt_range _ _).1 (bt_range _ _).2 (by omega) (by omega)) ?_) | refine jcallq bo40 rfl rfl rfl (nendC _ _ _) ?_ | refine jcallq bo42 rfl rfl rfl (spaceC _ _ _) ?_ | refine jcallq bo39 rfl rfl rfl (ltrC _ _ _) ?_) | (show J _ _ _ _ _ _ (⟨_, .extract _ _, _, _, _, _⟩ :: _) _ _; refine jy (yextractL rfl rfl) rfl rfl ?_)  | (show J _ _ _ _ _ _ (⟨_, .build _ _, _, _, _, _⟩ :: _) _ _; refine jy (ybuild rfl (by first | exact bu0 | exact bu3 _)) rfl rfl ?_)))
      · rw [e1 (by omega) (.inl (by omega))] at he
        exact fin (hK 0 (lim, self') (by omega) ⟨by dsimp only; omega, he, by dsimp only; omega⟩) ⟨rfl, rfl, rfl, trivial⟩ rfl
      · rw [e1 (by omega) (.inr (by omega))] at he
        exact fin (hK 0 (lim, self') (by omega) ⟨by dsimp only; omega, he, by dsimp only; omega⟩) ⟨rfl, rfl, rfl, trivial⟩ rfl
      · rw [e2 (by omega)] at he
        exact fin (hK (lim - b) (b, self') (by omega) ⟨by dsimp only; omega, he, rfl⟩) ⟨rfl, rfl, rfl, trivial⟩ rfl
      · rw [e2 (by omega)] at he
        exact fin (hK (lim - b) (b, self') (by omega) ⟨by dsimp only; omega, he, rfl⟩) ⟨rfl, rfl, rfl, trivial⟩ rfl
    · have hv : idxV s lim (bt s b) (b + 1) = (findB s lim (bt s b) (b + 1) : Int) - ((b + 1 : Nat) : Int) := by unfold idxV; rw [if_neg hf]
      have e1 : b < lim → (bt s b = 34 ∨ bt s b = 39) → valueE s lim b = findB s lim (bt s b) (b + 1) + 1 := fun h h' => by unfold valueE; rw [if_pos h, if_pos h', if_neg hf]
      have e2 : ¬ (b < lim ∧ (bt s b = 34 ∨ bt s b = 39)) → valueE s lim b = b := fun h => by unfold valueE; by_cases h' : b < lim; rw [if_pos h', if_neg (fun q => h ⟨h', q⟩)]; rw [if_neg h']
      generalize findB s lim (bt s b) (b + 1) = v at hf hv e1 hg
      repeat' (first | (show PJ _ (Code.wp _ _ _) _ _; first | refine cseq ?_ | refine rtext ?_ | refine ctrue rfl ?_ | refine cfalse rfl ?_ | refine cskip ?_ | refine cblk ?_ | refine cret ?_ | refine cexit ?_ | refine csplit' rfl (fun hq => ?_) (fun hq => ?_) | refine rtail (id := 38) 24 mixed (by kernel_rfl) ?_ | refine rtail (id := 30) 12 mixed (by kernel_rfl) ?_ | refine rquiet mixed (by kernel_rfl) ?_) | (show PJ _ (Exit.then _ _ _) _ _; first | refine tnorm ?_ | refine tret ?_ | refine texit ?_) | (show PJ _ (Exit.inBlock _ _ _) _ _; first | refine bnorm ?_ | refine bret ?_ | refine bexit ?_ | refine bother rfl ?_) | (show PJ _ (wpList _ _ _ _) _ _; refine jlist ?_) | (show J _ _ _ _ _ _ [] _ _; refine jnil ?_) | (show J _ _ _ _ _ _ (_ :: _) _ _; first | refine js rfl rfl ?_ | (show J _ _ _ _ _ _ (⟨_, .move _, _, _, _, _⟩ :: _) _ _; refine jy (ymove rfl) rfl rfl ?_) | (show J _ _ _ _ _ _ (⟨_, .nilCheck _, _, _, _, _⟩ :: _) _ _; refine jy (ynil rfl) rfl rfl ?_) | (show J _ _ _ _ _ _ (⟨_, .fieldAddr _ _ _, _, _, _, _⟩ :: _) _ _; refine jy (yfield rfl (by first | exact fb49_0 | exact fb49_1 | exact fb53_0 | exact fb53_1 | exact fb53_2 | exact fb53_3) rfl) rfl rfl ?_) | (show J _ _ _ _ _ _ (⟨_, .load _ _, _, _, _, _⟩ :: _) _ _; first | refine jy (yload (i := 0) rfl rfl rfl (by first | exact one3 | exact one9 | exact one4 | exact one51)) rfl rfl ?_ | refine jy (yload (i := 1) rfl rfl rfl (by first | exact one3 | exact one9 | exact one4 | exact one51)) rfl rfl ?_ | refine jy (yloads (i := 0) rfl rfl (by first | exact ag53)) rfl rfl ?_ ) | (show J _ _ _ _ _ _ (⟨_, .assign _, _, _, _, _⟩ :: _) _ _; refine jy (yassign rfl) rfl rfl ?_) | (show J _ _ _ _ _ _ (⟨_, .binOp _ _ _ _ _, _, _, _, _⟩ :: _) _ _; first | refine jy (yadd (c := ((b + 1 : Nat) : Int)) rfl rfl (by rw [i64_in (by omega) (by omega)]; omega)) rfl rfl ?_| refine jy (yadd (c := ((v + 1 : Nat) : Int)) rfl rfl (by have := hg (by omega); rw [i64_in (by omega) (by omega)]; omega)) rfl rfl ?_ | refine jy (yadd rfl rfl (by have := hg (by omega); exact i64_in (by omega) (by omega))) rfl rfl ?_ | refine jy (yadd rfl rfl (i64_in (by omega) (by omega))) rfl rfl ?_ | refine jy (ylss rfl rfl (by first | exact decide_eq_true (by omega) | exact decide_eq_false (by omega))) rfl rfl ?_ | refine jlss rfl rfl rfl rfl (fun hq => ?_) (fun hq => ?_) | refine jy (yeql rfl rfl (by first | exact decide_eq_true (by omega) | exact decide_eq_false (by omega))) rfl rfl ?_ | refine jeql rfl rfl rfl rfl (fun hq => ?_) (fun hq => ?_) | refine jy (ygeq rfl rfl (by first | exact decide_eq_true (by omega) | exact decide_eq_false (by omega))) rfl rfl ?_ | refine jgeq rfl rfl rfl rfl (fun hq => ?_) (fun hq => ?_)) | (show J _ _ _ _ _ _ (⟨_, .store _ _ _, _, _, _, _⟩ :: _) _ _; first | refine jstore (i := 0) rfl rfl rfl rfl rfl (by first | exact si3 | exact si9 | exact si51 | exact si4 | exact si53) (by first | exact hS | exact .inr hT) ?_ | refine jstore (i := 1) rfl rfl rfl rfl rfl (by first | exact si3 | exact si9 | exact si51 | exact si4 | exact si53) (by first | exact hS | exact .inr hT) ?_ | refine jstores (i := 0) rfl rfl rfl rfl rfl (by first | exact si3 | exact si9 | exact si51 | exact si4 | exact si53) (.inr hT) ?_ ) | (show J _ _ _ _ _ _ (⟨_, .pick _ _ _, _, _, _, _⟩ :: _) _ _; first | refine jy (ypick1 rfl rfl) rfl rfl ?_ | refine jy (ypick0 rfl rfl) rfl rfl ?_) | (show J _ _ _ _ _ _ (⟨_, .unOp _ _ _, _, _, _, _⟩ :: _) _ _; refine jy (ynot rfl rfl) rfl rfl ?_) | (show J _ _ _ _ _ _ (⟨_, .index _ _ _, _, _, _, _⟩ :: _) _ _; refine jy (yidx (c := bt _ _) rfl rfl und9 (by omega) (by omega) rfl) rfl rfl ?_) | (show J _ _ _ _ _ _ (⟨_, .slice _ _ _ _ _, _, _, _, _⟩ :: _) _ _; refine jy (yslice rfl rfl rfl und9 (by omega) (by omega) (by omega) rfl) rfl rfl ?_) | (show J _ _ _ _ _ _ (⟨_, .call _, _, _, _, _⟩ :: _) _ _; first | (refine jcallq bo36 rfl rfl rfl (idxC _ _ s lim (b + 1) _ (bt_range _ _).1 (bt_range _ _).2 (by omega) (by omega)) ?_) | refine jcallq bo40 rfl rfl rfl (nendC _ _ _) ?_ | refine jcallq bo42 rfl rfl rfl (spaceC _ _ _) ?_ | refine jcallq bo39 rfl rfl rfl (ltrC _ _ _) ?_) | (show J _ _ _ _ _ _ (⟨_, .extract _ _, _, _, _, _⟩ :: _) _ _; refine jy (yextractL rfl rfl) rfl rfl ?_)  | (show J _ _ _ _ _ _ (⟨_, .build _ _, _, _, _, _⟩ :: _) _ _; refine jy (ybuild rfl (by first | exact bu0 | exact bu3 _)) rfl rfl ?_)))
      · have := hg (by omega)
        rw [e1 (by omega) (.inl (by omega))] at he
        exact fin (hK (lim - (v + 1)) (v + 1, self') (by omega) ⟨by dsimp only; omega, he, rfl⟩) ⟨rfl, rfl, rfl, trivial⟩ rfl
      · have := hg (by omega)
        rw [e1 (by omega) (.inr (by omega))] at he
        exact fin (hK (lim - (v + 1)) (v + 1, self') (by omega) ⟨by dsimp only; omega, he, rfl⟩) ⟨rfl, rfl, rfl, trivial⟩ rfl
      · rw [e2 (by omega)] at he
        exact fin (hK (lim - b) (b, self') (by omega) ⟨by dsimp only; omega, he, rfl⟩) ⟨rfl, rfl, rfl, trivial⟩ rfl
      · rw [e2 (by omega)] at he
        exact fin (hK (lim - b) (b, self') (by omega) ⟨by dsimp only; omega, he, rfl⟩) ⟨rfl, rfl, rfl, trivial⟩ rfl
  · rw [dif_pos (by omega), if_neg (by omega), if_neg (by omega), if_neg (by omega)] at he
    exact fin (hK (lim - (p' + 1)) (p' + 1, self') (by omega) ⟨by dsimp only; omega, he, rfl⟩) ⟨rfl, rfl, rfl, trivial⟩ rfl
  · rw [dif_neg (by omega)] at he
    rw [← he] at h
    exact fin h ⟨rfl, rfl, rfl, trivial⟩ rfl
end Go.Proofs.YthjddnmfpdcjnaaDoor.NextW
