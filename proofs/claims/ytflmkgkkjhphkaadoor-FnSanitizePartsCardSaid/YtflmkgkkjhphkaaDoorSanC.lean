/- Sanitized texts: the contracts of package unicode; which rune stays, as the program and as the reference ask it. -/
import Derived.Test.YtflmkgkkjhphkaaDoorRx
import Derived.Test.YtflmkgkkjhphkaaDoorSanP
import Derived.Test.YtflmkgkkjhphkaaDoorShelfUni
set_option linter.unusedVariables false
set_option linter.unusedSimpArgs false
namespace Go.Proofs.YtflmkgkkjhphkaaDoor.SanC
open Go.Rx
open Go.RowKit Go.Proofs.YtflmkgkkjhphkaaDoor.Dec0 Go.Proofs.YtflmkgkkjhphkaaDoor.San0 Go.Lib
/-- What the listed variables hold. -/
structure Uni (w : World) : Prop where
  props : Lib.TabIs Tryd.prog w "unicode.properties" .u8 Lib.propertiesTab
  letter : RVar 2 letterT w
  digit : RVar 3 digitT w
  mark : RVar 4 markT w
  white : Lib.WhiteTab 0 w
theorem Uni.below {w w' : World} (h : Uni w) (hb : Below w.heap.size w w') : Uni w' :=
  ⟨TabIs_below (show Tryd.prog.globalNamed "unicode.properties" = some 1 by kernel_rfl) h.props hb, RVar_below h.letter hb, RVar_below h.digit hb, RVar_below h.mark hb, WhiteTab_below h.white hb⟩
def i32 (r : Int) : Prop := -2147483648 ≤ r ∧ r ≤ 2147483647
theorem of_R {r : Int} (h : isR r) : i32 r := by obtain ⟨h1, h2, h3⟩ := h; exact ⟨by omega, by omega⟩
section
variable {X : Cx} {m : Mem} {r : Int} (hu : Uni X.w0) (hS : ∀ k, X.S k → False) (hr : i32 r)
include hu hS hr
theorem spaceC : ∀ w, Cl X m w → Calls Tryd.prog 16 #[.int .i32 r] w fun e w' => e = .returned (.bool (isSpaceZ r)) ∧ Cl X m w' :=
  quietC fun w hw => Tryd.unicode_IsSpace_any r w hr.1 hr.2 (hu.below (hw.2.below (fun k _ h => hS k h) (Nat.le_refl _))).white
theorem letterC : ∀ w, Cl X m w → Calls Tryd.prog 19 #[.int .i32 r] w fun e w' => e = .returned (.bool (isLetterU r)) ∧ Cl X m w' :=
  quietC fun w hw => Tryd.unicode_IsLetter_all r w hr.1 hr.2 (hu.below (hw.2.below (fun k _ h => hS k h) (Nat.le_refl _))).props (hu.below (hw.2.below (fun k _ h => hS k h) (Nat.le_refl _))).letter
theorem digitC : ∀ w, Cl X m w → Calls Tryd.prog 20 #[.int .i32 r] w fun e w' => e = .returned (.bool (isDigitU r)) ∧ Cl X m w' :=
  quietC fun w hw => Tryd.unicode_IsDigit_all r w hr.1 hr.2 (hu.below (hw.2.below (fun k _ h => hS k h) (Nat.le_refl _))).digit
theorem markC : ∀ w, Cl X m w → Calls Tryd.prog 21 #[.int .i32 r] w fun e w' => e = .returned (.bool (isMarkU r)) ∧ Cl X m w' :=
  quietC fun w hw => Tryd.unicode_IsMark_all r w hr.1 hr.2 (hu.below (hw.2.below (fun k _ h => hS k h) (Nat.le_refl _))).mark
end
theorem mixed : Tryd.prog.follows .mixedOrders = true := by kernel_rfl
theorem und9 : Tryd.prog.underlying 9 = some .string := by kernel_rfl
theorem und21 : Tryd.prog.underlying 21 = some (.int .i32) := by kernel_rfl
theorem und29 : Tryd.prog.underlying 29 = some (.slice 21) := by kernel_rfl
theorem one21 : oneB Tryd.prog 21 = true := by kernel_rfl
theorem sz21 : szB Tryd.prog 21 1 = true := by kernel_rfl
theorem gr29 : growB Tryd.prog 29 21 1 4 = true := by kernel_rfl
theorem bo16 : bodyB Tryd.prog 16 = true := by kernel_rfl
theorem bo17 : bodyB Tryd.prog 17 = true := by kernel_rfl
theorem bo18 : bodyB Tryd.prog 18 = true := by kernel_rfl
theorem bo19 : bodyB Tryd.prog 19 = true := by kernel_rfl
theorem bo20 : bodyB Tryd.prog 20 = true := by kernel_rfl
theorem bo21 : bodyB Tryd.prog 21 = true := by kernel_rfl
theorem bo23 : bodyB Tryd.prog 23 = true := by kernel_rfl
theorem bo26 : bodyB Tryd.prog 26 = true := by kernel_rfl
theorem bo15 : bodyB Tryd.prog 15 = true := by kernel_rfl
theorem hex_calls (c : Int) (w : World) : Calls Tryd.prog 26 #[.int .u8 c] w fun e w' => e = .returned (.bool (hexR c)) ∧ Below w.heap.size w w' := by
  refine enter (fun _ => False) 24 [] Tryd.func26 rfl rfl rfl (vs := [.int .u8 c]) (Has.nil _) ?_
  conv => arg 2; arg 2; whnf
  have post : ∀ (f : Fr) (m : Mem) (b : Bool), hexR c = b → Rx.look f 2 = some (.bool b) → PJ ⟨24, [], fun _ => False, w⟩ (bodyPost Tryd.prog Tryd.f26 (fun e w' => e = .returned (.bool (hexR c)) ∧ Below w.heap.size w w') .ret) f m := fun f m b hb hf => by
    subst hb
    exact ret1 rfl rfl hf (fun w' hw' => ⟨rfl, hw'.2.below (fun k _ h => h) (Nat.le_refl _)⟩)
  repeat' (first | (show PJ _ (Code.wp _ _ _) _ _; first | refine cseq ?_ | refine rtext ?_ | refine ctrue rfl ?_ | refine cfalse rfl ?_ | refine cskip ?_ | refine cblk ?_ | refine cret ?_ | refine cexit ?_ | refine csplit' rfl (fun hq => ?_) (fun hq => ?_)  | refine rquiet mixed (by kernel_rfl) ?_) | (show PJ _ (Exit.then _ _ _) _ _; first | refine tnorm ?_ | refine tret ?_ | refine texit ?_) | (show PJ _ (Exit.inBlock _ _ _) _ _; first | refine bnorm ?_ | refine bret ?_ | refine bexit ?_ | refine bother rfl ?_) | (show PJ _ (wpList _ _ _ _) _ _; refine jlist ?_) | (show J _ _ _ _ _ _ [] _ _; refine jnil ?_) | (show J _ _ _ _ _ _ (_ :: _) _ _; first  | refine js rfl rfl ?_ | (show J _ _ _ _ _ _ (⟨_, .move _, _, _, _, _⟩ :: _) _ _; refine jy (ymove rfl) rfl rfl ?_) | (show J _ _ _ _ _ _ (⟨_, .nilCheck _, _, _, _, _⟩ :: _) _ _; refine jy (ynil rfl) rfl rfl ?_) | (show J _ _ _ _ _ _ (⟨_, .fieldAddr _ _ _, _, _, _, _⟩ :: _) _ _; refine jy (yfield rfl (by first | fail) rfl) rfl rfl ?_) | (show J _ _ _ _ _ _ (⟨_, .load _ _, _, _, _, _⟩ :: _) _ _; first | refine jy (yload (i := 0) rfl rfl rfl (by first | exact one21)) rfl rfl ?_ | refine jy (yload (i := 1) rfl rfl rfl (by first | exact one21)) rfl rfl ?_ | refine jy (yloads (i := 0) rfl rfl (by first | fail)) rfl rfl ?_ ) | (show J _ _ _ _ _ _ (⟨_, .assign _, _, _, _, _⟩ :: _) _ _; refine jy (yassign rfl) rfl rfl ?_) | (show J _ _ _ _ _ _ (⟨_, .binOp _ _ _ _ _, _, _, _, _⟩ :: _) _ _; first | refine jy (yleq rfl rfl (by first | exact decide_eq_true (by omega) | exact decide_eq_false (by omega))) rfl rfl ?_ | refine jleq rfl rfl rfl rfl (fun hq => ?_) (fun hq => ?_) | refine jy (yadd rfl rfl (i64_in (by omega) (by omega))) rfl rfl ?_ | refine jy (ylss rfl rfl (by first | exact decide_eq_true (by omega) | exact decide_eq_false (by omega))) rfl rfl ?_ | refine jlss rfl rfl rfl rfl (fun hq => ?_) (fun hq => ?_) | refine jy (yeql rfl rfl (by first | exact decide_eq_true (by omega) | exact decide_eq_false (by omega))) rfl rfl ?_ | refine jeql rfl rfl rfl rfl (fun hq => ?_) (fun hq => ?_) | refine jy (ygeq rfl rfl (by first | exact decide_eq_true (by omega) | exact decide_eq_false (by omega))) rfl rfl ?_ | refine jgeq rfl rfl rfl rfl (fun hq => ?_) (fun hq => ?_)) | (show J _ _ _ _ _ _ (⟨_, .store _ _ _, _, _, _, _⟩ :: _) _ _; first | refine jstore (i := 0) rfl rfl rfl rfl rfl (by first | fail) (by first | exact hS | exact .inr hT) ?_ | refine jstore (i := 1) rfl rfl rfl rfl rfl (by first | fail) (by first | exact hS | exact .inr hT) ?_ | refine jstores (i := 0) rfl rfl rfl rfl rfl (by first | fail) (.inr hT) ?_ ) | (show J _ _ _ _ _ _ (⟨_, .pick _ _ _, _, _, _, _⟩ :: _) _ _; first | refine jy (ypick1 rfl rfl) rfl rfl ?_ | refine jy (ypick0 rfl rfl) rfl rfl ?_) | (show J _ _ _ _ _ _ (⟨_, .unOp _ _ _, _, _, _, _⟩ :: _) _ _; refine jy (ynot rfl rfl) rfl rfl ?_) | (show J _ _ _ _ _ _ (⟨_, .index _ _ _, _, _, _, _⟩ :: _) _ _; refine jy (yidx (c := bt _ _) rfl rfl und9 (by omega) (by omega) rfl) rfl rfl ?_) | (show J _ _ _ _ _ _ (⟨_, .slice _ _ _ _ _, _, _, _, _⟩ :: _) _ _; refine jy (yslice rfl rfl rfl und9 (by omega) (by omega) (by omega) rfl) rfl rfl ?_) | (show J _ _ _ _ _ _ (⟨_, .call _, _, _, _, _⟩ :: _) _ _; first | fail) | (show J _ _ _ _ _ _ (⟨_, .extract _ _, _, _, _, _⟩ :: _) _ _; refine jy (yextractL rfl rfl) rfl rfl ?_)  | (show J _ _ _ _ _ _ (⟨_, .build _ _, _, _, _, _⟩ :: _) _ _; refine jy (ybuild rfl (by first | exact bu0 | exact bu3 _)) rfl rfl ?_)))
  all_goals first
    | exact post _ _ true (by unfold hexR; simp <;> omega) rfl
    | exact post _ _ false (by unfold hexR; simp <;> omega) rfl
theorem phex_calls (c : Int) (w : World) : Calls Tryd.prog 18 #[.int .i32 c] w fun e w' => e = .returned (.bool (hexR c)) ∧ Below w.heap.size w w' := by
  refine enter (fun _ => False) 25 [] Tryd.func18 rfl rfl rfl (vs := [.int .i32 c]) (Has.nil _) ?_
  conv => arg 2; arg 2; whnf
  have post : ∀ (f : Fr) (m : Mem) (b : Bool), hexR c = b → Rx.look f 2 = some (.bool b) → PJ ⟨25, [], fun _ => False, w⟩ (bodyPost Tryd.prog Tryd.f18 (fun e w' => e = .returned (.bool (hexR c)) ∧ Below w.heap.size w w') .ret) f m := fun f m b hb hf => by
    subst hb
    exact ret1 rfl rfl hf (fun w' hw' => ⟨rfl, hw'.2.below (fun k _ h => h) (Nat.le_refl _)⟩)
  repeat' (first | (show PJ _ (Code.wp _ _ _) _ _; first | refine cseq ?_ | refine rtext ?_ | refine ctrue rfl ?_ | refine cfalse rfl ?_ | refine cskip ?_ | refine cblk ?_ | refine cret ?_ | refine cexit ?_ | refine csplit' rfl (fun hq => ?_) (fun hq => ?_)  | refine rquiet mixed (by kernel_rfl) ?_) | (show PJ _ (Exit.then _ _ _) _ _; first | refine tnorm ?_ | refine tret ?_ | refine texit ?_) | (show PJ _ (Exit.inBlock _ _ _) _ _; first | refine bnorm ?_ | refine bret ?_ | refine bexit ?_ | refine bother rfl ?_) | (show PJ _ (wpList _ _ _ _) _ _; refine jlist ?_) | (show J _ _ _ _ _ _ [] _ _; refine jnil ?_) | (show J _ _ _ _ _ _ (_ :: _) _ _; first  | refine js rfl rfl ?_ | (show J _ _ _ _ _ _ (⟨_, .move _, _, _, _, _⟩ :: _) _ _; refine jy (ymove rfl) rfl rfl ?_) | (show J _ _ _ _ _ _ (⟨_, .nilCheck _, _, _, _, _⟩ :: _) _ _; refine jy (ynil rfl) rfl rfl ?_) | (show J _ _ _ _ _ _ (⟨_, .fieldAddr _ _ _, _, _, _, _⟩ :: _) _ _; refine jy (yfield rfl (by first | fail) rfl) rfl rfl ?_) | (show J _ _ _ _ _ _ (⟨_, .load _ _, _, _, _, _⟩ :: _) _ _; first | refine jy (yload (i := 0) rfl rfl rfl (by first | exact one21)) rfl rfl ?_ | refine jy (yload (i := 1) rfl rfl rfl (by first | exact one21)) rfl rfl ?_ | refine jy (yloads (i := 0) rfl rfl (by first | fail)) rfl rfl ?_ ) | (show J _ _ _ _ _ _ (⟨_, .assign _, _, _, _, _⟩ :: _) _ _; refine jy (yassign rfl) rfl rfl ?_) | (show J _ _ _ _ _ _ (⟨_, .binOp _ _ _ _ _, _, _, _, _⟩ :: _) _ _; first | refine jy (ygeq rfl rfl (by first | exact decide_eq_true (by omega) | exact decide_eq_false (by omega))) rfl rfl ?_ | refine jgeq rfl rfl rfl rfl (fun hq => ?_) (fun hq => ?_) | refine jy (yleq rfl rfl (by first | exact decide_eq_true (by omega) | exact decide_eq_false (by omega))) rfl rfl ?_ | refine jleq rfl rfl rfl rfl (fun hq => ?_) (fun hq => ?_) | refine jy (yadd rfl rfl (i64_in (by omega) (by omega))) rfl rfl ?_ | refine jy (ylss rfl rfl (by first | exact decide_eq_true (by omega) | exact decide_eq_false (by omega))) rfl rfl ?_ | refine jlss rfl rfl rfl rfl (fun hq => ?_) (fun hq => ?_) | refine jy (yeql rfl rfl (by first | exact decide_eq_true (by omega) | exact decide_eq_false (by omega))) rfl rfl ?_ | refine jeql rfl rfl rfl rfl (fun hq => ?_) (fun hq => ?_) | refine jy (ygeq rfl rfl (by first | exact decide_eq_true (by omega) | exact decide_eq_false (by omega))) rfl rfl ?_ | refine jgeq rfl rfl rfl rfl (fun hq => ?_) (fun hq => ?_)) | (show J _ _ _ _ _ _ (⟨_, .store _ _ _, _, _, _, _⟩ :: _) _ _; first | refine jstore (i := 0) rfl rfl rfl rfl rfl (by first | fail) (by first | exact hS | exact .inr hT) ?_ | refine jstore (i := 1) rfl rfl rfl rfl rfl (by first | fail) (by first | exact hS | exact .inr hT) ?_ | refine jstores (i := 0) rfl rfl rfl rfl rfl (by first | fail) (.inr hT) ?_ ) | (show J _ _ _ _ _ _ (⟨_, .pick _ _ _, _, _, _, _⟩ :: _) _ _; first | refine jy (ypick1 rfl rfl) rfl rfl ?_ | refine jy (ypick0 rfl rfl) rfl rfl ?_) | (show J _ _ _ _ _ _ (⟨_, .unOp _ _ _, _, _, _, _⟩ :: _) _ _; refine jy (ynot rfl rfl) rfl rfl ?_) | (show J _ _ _ _ _ _ (⟨_, .index _ _ _, _, _, _, _⟩ :: _) _ _; refine jy (yidx (c := bt _ _) rfl rfl und9 (by omega) (by omega) rfl) rfl rfl ?_) | (show J _ _ _ _ _ _ (⟨_, .slice _ _ _ _ _, _, _, _, _⟩ :: _) _ _; refine jy (yslice rfl rfl rfl und9 (by omega) (by omega) (by omega) rfl) rfl rfl ?_) | (show J _ _ _ _ _ _ (⟨_, .call _, _, _, _, _⟩ :: _) _ _; first | fail) | (show J _ _ _ _ _ _ (⟨_, .extract _ _, _, _, _, _⟩ :: _) _ _; refine jy (yextractL rfl rfl) rfl rfl ?_)  | (show J _ _ _ _ _ _ (⟨_, .build _ _, _, _, _, _⟩ :: _) _ _; refine jy (ybuild rfl (by first | exact bu0 | exact bu3 _)) rfl rfl ?_)))
  all_goals first
    | exact post _ _ true (by unfold hexR; simp <;> omega) rfl
    | exact post _ _ false (by unfold hexR; simp <;> omega) rfl
/-! ### which rune stays -/
/-- As the program asks it: what follows are bytes. -/
theorem hex2_bytes (l : T) : hex2 (rs l) = (decide (2 ≤ l.length) && hexR (gb l 0) && hexR (gb l 1)) := by
  have hx : ∀ (x : UInt8) (t : T), hexR (rn (x :: t)) = hexR (x.toNat : Int) := by
    intro x t
    rcases rn_cons x t with ⟨h1, h2, _⟩ | ⟨h1, h2⟩
    · rw [h2]
    · have e1 : hexR (rn (x :: t)) = false := by unfold hexR; simp; omega
      have e2 : hexR (x.toNat : Int) = false := by unfold hexR; simp; omega
      rw [e1, e2]
  cases l with
  | nil => rw [rs_nil]; rfl
  | cons x t =>
    rw [rs_cons (by simp)]
    cases hb : hexR (x.toNat : Int) with
    | false =>
      have e : hexR ((gb (x :: t) 0 : Nat) : Int) = false := hb
      rw [e]
      simp only [Bool.and_false, Bool.false_and]
      cases hr : rs ((x :: t).drop (wd (x :: t))) with
      | nil => rfl
      | cons a b => show (hexR (rn (x :: t)) && hexR a) = false; rw [hx, hb, Bool.false_and]
    | true =>
      have hlt : x.toNat < 128 := by unfold hexR at hb; simp at hb; omega
      rw [wd_ascii hlt]
      have e : hexR ((gb (x :: t) 0 : Nat) : Int) = true := hb
      rw [e, Bool.and_true, List.drop_succ_cons, List.drop_zero]
      cases t with
      | nil => rw [rs_nil]; rfl
      | cons y t =>
        rw [rs_cons (by simp)]
        show (hexR (rn (x :: y :: t)) && hexR (rn (y :: t))) = _
        rw [hx, hx, hb]
        simp [gb]
theorem gb_bt (s : ByteArray) (p k : Nat) : ((gb (s.data.toList.drop p) k : Nat) : Int) = Rx.bt s ((p + k : Nat) : Int) := by
  unfold gb Rx.bt
  rw [List.getD_eq_getElem?_getD, List.getElem?_drop, Array.getElem?_toList]
  simp only [Int.toNat_natCast]
  split
  · rename_i h
    have h' : p + k < s.data.size := h
    rw [Array.getElem?_eq_getElem h']
    rfl
  · rename_i h
    have h' : ¬ p + k < s.data.size := h
    rw [Array.getElem?_eq_none (by omega)]
    rfl
theorem hex2_bt (s : ByteArray) (p : Nat) : hex2 (rs (s.data.toList.drop (p + 1))) = (decide ((p : Int) + 2 < s.size) && hexR (Rx.bt s ((p + 1 : Nat) : Int)) && hexR (Rx.bt s ((p + 2 : Nat) : Int))) := by
  rw [hex2_bytes, gb_bt, gb_bt]
  have hs : s.data.toList.length = s.size := by rw [Array.length_toList]; rfl
  congr 3
  rw [List.length_drop, hs]
  exact propext ⟨fun h => by omega, fun h => by omega⟩
theorem stay_ldm {c : Int} {r : List Int} (h : ldm c = true) : stay c r = true := by unfold stay; rw [h]; rfl
theorem ldm_of {c : Int} (h : isLetterU c = true ∨ isDigitU c = true ∨ isMarkU c = true) : ldm c = true := by unfold ldm; rcases h with h | h | h <;> simp [h]
theorem ldm_37 : ldm 37 = false := by decide +kernel
theorem ldm_32 : ldm 32 = false := by decide +kernel
set_option maxHeartbeats 4000000 in
set_option maxRecDepth 100000 in
theorem allowed_calls (s : ByteArray) (p : Nat) (w : World) (hu : Uni w) (hp : p < s.size) (hs : s.size ≤ 70368744177664) :
    Calls Tryd.prog 23 #[.string s, .int .i64 p, .int .i32 (rn (s.data.toList.drop p))] w fun e w' => e = .returned (.bool (stay (rn (s.data.toList.drop p)) (rs (s.data.toList.drop (p + wd (s.data.toList.drop p)))))) ∧ Below w.heap.size w w' := by
  have hl : s.data.toList.length = s.size := by rw [Array.length_toList]; rfl
  have hne : s.data.toList.drop p ≠ [] := by
    intro e
    have := congrArg List.length e
    rw [List.length_drop, hl] at this
    simp at this
    omega
  have hr : i32 (rn (s.data.toList.drop p)) := by
    have := rn_max (s.data.toList.drop p)
    exact ⟨by omega, by omega⟩
  have hw37 : rn (s.data.toList.drop p) = 37 → wd (s.data.toList.drop p) = 1 := by
    intro h
    cases hd : s.data.toList.drop p with
    | nil => exact absurd hd hne
    | cons c r =>
      rw [hd] at h
      rcases rn_cons c r with ⟨h1, h2, h3⟩ | ⟨h1, h2⟩
      · exact h3
      · omega
  have h37 : rn (s.data.toList.drop p) = 37 → stay (rn (s.data.toList.drop p)) (rs (s.data.toList.drop (p + wd (s.data.toList.drop p)))) = (decide ((p : Int) + 2 < s.size) && hexR (Rx.bt s ((p + 1 : Nat) : Int)) && hexR (Rx.bt s ((p + 2 : Nat) : Int))) := by
    intro h
    rw [hw37 h, hex2_bt s p |>.symm, h]
    unfold stay
    rw [ldm_37]
    rfl
  have hno : ∀ {r' : List Int}, isLetterU (rn (s.data.toList.drop p)) = false → isDigitU (rn (s.data.toList.drop p)) = false → isMarkU (rn (s.data.toList.drop p)) = false → sign (rn (s.data.toList.drop p)) = false → rn (s.data.toList.drop p) ≠ 37 → stay (rn (s.data.toList.drop p)) r' = false := by
    intro r' h1 h2 h3 h4 h5
    unfold stay ldm
    rw [h1, h2, h3, h4, beq_eq_false_iff_ne.2 h5]
    rfl
  generalize hRR : rs (s.data.toList.drop (p + wd (s.data.toList.drop p))) = R at h37 ⊢
  clear hRR
  generalize rn (s.data.toList.drop p) = c at *
  refine enter (fun _ => False) 85 [] Tryd.func23 rfl rfl rfl (vs := [.string s, .int .i64 p, .int .i32 c]) (Has.nil _) ?_
  conv => arg 2; arg 2; whnf
  have post : ∀ (f : Fr) (m : Mem) (b : Bool), stay c R = b → Rx.look f 6 = some (.bool b) → PJ ⟨85, [], fun _ => False, w⟩ (bodyPost Tryd.prog Tryd.f23 (fun e w' => e = .returned (.bool (stay c R)) ∧ Below w.heap.size w w') .ret) f m := fun f m b hb hf => by
    subst hb
    exact ret1 rfl rfl hf (fun w' hw' => ⟨rfl, hw'.2.below (fun k _ h => h) (Nat.le_refl _)⟩)
  repeat' (first | (show PJ _ (Code.wp _ _ _) _ _; first | refine cseq ?_ | refine rtext ?_ | refine ctrue rfl ?_ | refine cfalse rfl ?_ | refine cskip ?_ | refine cblk ?_ | refine cret ?_ | refine cexit ?_ | refine csplit' rfl (fun hq => ?_) (fun hq => ?_)  | refine rquiet mixed (by kernel_rfl) ?_) | (show PJ _ (Exit.then _ _ _) _ _; first | refine tnorm ?_ | refine tret ?_ | refine texit ?_) | (show PJ _ (Exit.inBlock _ _ _) _ _; first | refine bnorm ?_ | refine bret ?_ | refine bexit ?_ | refine bother rfl ?_) | (show PJ _ (wpList _ _ _ _) _ _; refine jlist ?_) | (show J _ _ _ _ _ _ [] _ _; refine jnil ?_) | (show J _ _ _ _ _ _ (_ :: _) _ _; first  | refine js rfl rfl ?_ | (show J _ _ _ _ _ _ (⟨_, .move _, _, _, _, _⟩ :: _) _ _; refine jy (ymove rfl) rfl rfl ?_) | (show J _ _ _ _ _ _ (⟨_, .nilCheck _, _, _, _, _⟩ :: _) _ _; refine jy (ynil rfl) rfl rfl ?_) | (show J _ _ _ _ _ _ (⟨_, .fieldAddr _ _ _, _, _, _, _⟩ :: _) _ _; refine jy (yfield rfl (by first | fail) rfl) rfl rfl ?_) | (show J _ _ _ _ _ _ (⟨_, .load _ _, _, _, _, _⟩ :: _) _ _; first | refine jy (yload (i := 0) rfl rfl rfl (by first | exact one21)) rfl rfl ?_ | refine jy (yload (i := 1) rfl rfl rfl (by first | exact one21)) rfl rfl ?_ | refine jy (yloads (i := 0) rfl rfl (by first | fail)) rfl rfl ?_ ) | (show J _ _ _ _ _ _ (⟨_, .assign _, _, _, _, _⟩ :: _) _ _; refine jy (yassign rfl) rfl rfl ?_) | (show J _ _ _ _ _ _ (⟨_, .binOp _ _ _ _ _, _, _, _, _⟩ :: _) _ _; first | (show J _ _ _ _ _ _ (⟨some 72, .binOp .add _ _ _ _, _, _, _, _⟩ :: _) _ _; refine jy (yadd (c := ((p + 1 : Nat) : Int)) rfl rfl (by rw [i64_in (by omega) (by omega)]; omega)) rfl rfl ?_) | (show J _ _ _ _ _ _ (⟨some 79, .binOp .add _ _ _ _, _, _, _, _⟩ :: _) _ _; refine jy (yadd (c := ((p + 2 : Nat) : Int)) rfl rfl (by rw [i64_in (by omega) (by omega)]; omega)) rfl rfl ?_) | refine jy (yadd rfl rfl (i64_in (by omega) (by omega))) rfl rfl ?_ | refine jy (ylss rfl rfl (by first | exact decide_eq_true (by omega) | exact decide_eq_false (by omega))) rfl rfl ?_ | refine jlss rfl rfl rfl rfl (fun hq => ?_) (fun hq => ?_) | refine jy (yeql rfl rfl (by first | exact decide_eq_true (by omega) | exact decide_eq_false (by omega))) rfl rfl ?_ | refine jeql rfl rfl rfl rfl (fun hq => ?_) (fun hq => ?_) | refine jy (ygeq rfl rfl (by first | exact decide_eq_true (by omega) | exact decide_eq_false (by omega))) rfl rfl ?_ | refine jgeq rfl rfl rfl rfl (fun hq => ?_) (fun hq => ?_)) | (show J _ _ _ _ _ _ (⟨_, .store _ _ _, _, _, _, _⟩ :: _) _ _; first | refine jstore (i := 0) rfl rfl rfl rfl rfl (by first | fail) (by first | exact hS | exact .inr hT) ?_ | refine jstore (i := 1) rfl rfl rfl rfl rfl (by first | fail) (by first | exact hS | exact .inr hT) ?_ | refine jstores (i := 0) rfl rfl rfl rfl rfl (by first | fail) (.inr hT) ?_ ) | (show J _ _ _ _ _ _ (⟨_, .pick _ _ _, _, _, _, _⟩ :: _) _ _; first | refine jy (ypick1 rfl rfl) rfl rfl ?_ | refine jy (ypick0 rfl rfl) rfl rfl ?_) | (show J _ _ _ _ _ _ (⟨_, .unOp _ _ _, _, _, _, _⟩ :: _) _ _; refine jy (ynot rfl rfl) rfl rfl ?_) | (show J _ _ _ _ _ _ (⟨_, .index _ _ _, _, _, _, _⟩ :: _) _ _; refine jy (yidx (c := bt _ _) rfl rfl und9 (by omega) (by omega) rfl) rfl rfl ?_) | (show J _ _ _ _ _ _ (⟨_, .slice _ _ _ _ _, _, _, _, _⟩ :: _) _ _; refine jy (yslice rfl rfl rfl und9 (by omega) (by omega) (by omega) rfl) rfl rfl ?_) | (show J _ _ _ _ _ _ (⟨_, .call _, _, _, _, _⟩ :: _) _ _; first | (show J _ _ _ _ _ _ (⟨_, .call ⟨.value (.func 19), _, _⟩, _, _, _, _⟩ :: _) _ _; refine jcallq bo19 rfl rfl rfl (letterC hu (fun _ h => h) hr) ?_; refine jcases (fun hL => ?_) (fun hL => ?_)) | (show J _ _ _ _ _ _ (⟨_, .call ⟨.value (.func 20), _, _⟩, _, _, _, _⟩ :: _) _ _; refine jcallq bo20 rfl rfl rfl (digitC hu (fun _ h => h) hr) ?_; refine jcases (fun hD => ?_) (fun hD => ?_)) | (show J _ _ _ _ _ _ (⟨_, .call ⟨.value (.func 21), _, _⟩, _, _, _, _⟩ :: _) _ _; refine jcallq bo21 rfl rfl rfl (markC hu (fun _ h => h) hr) ?_; refine jcases (fun hM => ?_) (fun hM => ?_)) | (show J _ _ _ _ _ _ (⟨some 74, .call ⟨.value (.func 26), _, _⟩, _, _, _, _⟩ :: _) _ _; refine jcallq bo26 rfl rfl rfl (quietC fun w _ => hex_calls (Rx.bt s ((p + 1 : Nat) : Int)) w) ?_; refine jcases (fun hA => ?_) (fun hA => ?_)) | (show J _ _ _ _ _ _ (⟨some 81, .call ⟨.value (.func 26), _, _⟩, _, _, _, _⟩ :: _) _ _; refine jcallq bo26 rfl rfl rfl (quietC fun w _ => hex_calls (Rx.bt s ((p + 2 : Nat) : Int)) w) ?_; refine jcases (fun hB => ?_) (fun hB => ?_)) | (show J _ _ _ _ _ _ (⟨_, .call ⟨.builtin .len, _, _⟩, _, _, _, _⟩ :: _) _ _; refine jy (ylens rfl und9) rfl rfl ?_)) | (show J _ _ _ _ _ _ (⟨_, .extract _ _, _, _, _, _⟩ :: _) _ _; refine jy (yextractL rfl rfl) rfl rfl ?_)  | (show J _ _ _ _ _ _ (⟨_, .build _ _, _, _, _, _⟩ :: _) _ _; refine jy (ybuild rfl (by first | exact bu0 | exact bu3 _)) rfl rfl ?_)))
  all_goals first
    | exact post _ _ true (stay_ldm (ldm_of (.inl hL))) rfl
    | exact post _ _ true (stay_ldm (ldm_of (.inr (.inl hD)))) rfl
    | exact post _ _ true (stay_ldm (ldm_of (.inr (.inr hM)))) rfl
    | exact post _ _ true (by subst hq; rfl) rfl
    | exact post _ _ true (by rw [h37 (by assumption), hA, hB, decide_eq_true (by omega)]; rfl) rfl
    | exact post _ _ false (by rw [h37 (by assumption), hA, Bool.and_false]; rfl) rfl
    | exact post _ _ false (by rw [h37 (by assumption), hB, Bool.and_false]) rfl
    | exact post _ _ false (by rw [h37 (by assumption), decide_eq_false (by omega)]; rfl) rfl
    | exact post _ _ false (by rw [show c = 32 by assumption]; unfold stay; rw [ldm_32]; rfl) rfl
    | exact post _ _ false (hno hL hD hM (by unfold sign; simp_all) (by assumption)) rfl
    | skip
end Go.Proofs.YtflmkgkkjhphkaaDoor.SanC
