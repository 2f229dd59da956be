/- FnTagsLess: a < that is followed by neither a letter nor / ! ? is text. the law returns true for every pair of texts; no condition. -/
import Derived.Test.YthjddnmfpdcjnaaDoorLawB
set_option linter.unusedVariables false
namespace Go.Proofs.YthjddnmfpdcjnaaDoor.PFnTagsLess
open Go.Rx hiding bt
open Go.RowKit Go.Proofs.YthjddnmfpdcjnaaDoorW.PrintWords Go.Proofs.YthjddnmfpdcjnaaDoor.Lib0 Go.Proofs.YthjddnmfpdcjnaaDoor.Tag0 Go.Proofs.YthjddnmfpdcjnaaDoor.NextW Go.Proofs.YthjddnmfpdcjnaaDoor.PL6 Go.Proofs.YthjddnmfpdcjnaaDoor.Has0L6 Go.Proofs.YthjddnmfpdcjnaaDoor.LawA Go.Proofs.YthjddnmfpdcjnaaDoor.LawB

theorem next_less (lower : ByteArray → Option ByteArray) {s : ByteArray} {i : Nat} (hi : i < s.size) (h60 : bt s (i : Nat) = 60) (ho : ∀ j : Nat, j < s.size → j ≠ i → bt s (j : Nat) ≠ 60)
    (hn : i + 1 < s.size → bt s ((i + 1 : Nat) : Int) ≠ 33 ∧ bt s ((i + 1 : Nat) : Int) ≠ 63 ∧ bt s ((i + 1 : Nat) : Int) ≠ 47 ∧ ltr (bt s ((i + 1 : Nat) : Int)) = false) :
    next lower s s.size 0 = some ⟨0, ⟨#[]⟩, false, 0, false, s.size⟩ := by
  have e0 : findB s s.size 60 0 = i := findB_eq (Nat.zero_le _) (Nat.le_of_lt hi) (fun j _ h2 => ho j (by omega) (by omega)) (fun _ => h60)
  have e1 : findB s s.size 60 (i + 1) = s.size := findB_eq (by omega) (Nat.le_refl _) (fun j h1 h2 => ho j (by omega) (by omega)) (fun h => absurd h (Nat.lt_irrefl _))
  rw [next, e0]
  by_cases hl : i + 1 < s.size
  · rw [dif_pos ⟨hl, Nat.zero_le _⟩]
    obtain ⟨h1, h2, h3, h4⟩ := hn hl
    have ea : afterLt lower s s.size i = some none := by
      unfold afterLt
      rw [if_neg (fun h => h.elim h1 h2), if_neg h3, h4, if_neg (by simp)]
    rw [ea]
    show next lower s s.size (i + 1) = _
    rw [next, dif_neg]
    rw [e1]
    omega
  · rw [dif_neg (by omega)]
theorem told_less (lower : ByteArray → Option ByteArray) (fold : ByteArray → ByteArray → Option Bool) {s : ByteArray} {i : Nat} (hi : i < s.size) (h60 : bt s (i : Nat) = 60) (ho : ∀ j : Nat, j < s.size → j ≠ i → bt s (j : Nat) ≠ 60)
    (hn : i + 1 < s.size → bt s ((i + 1 : Nat) : Int) ≠ 33 ∧ bt s ((i + 1 : Nat) : Int) ≠ 63 ∧ bt s ((i + 1 : Nat) : Int) ≠ 47 ∧ ltr (bt s ((i + 1 : Nat) : Int)) = false) :
    tags lower fold s 0 [stepAll s] = some [⟨0, ⟨#[]⟩, false, 0, false, s.size⟩] := by
  have h1 : step1 lower fold s 0 (stepAll s) = some ⟨0, ⟨#[]⟩, false, 0, false, s.size⟩ := by
    unfold step1
    rw [if_pos (show (stepAll s).act = 0 from rfl), if_pos (show ((0 : Nat) : Int) ≤ (stepAll s).limit ∧ (stepAll s).limit ≤ (s.size : Int) from ⟨by simp [stepAll], by simp [stepAll]⟩)]
    show (next lower s s.size 0).map _ = _
    rw [next_less lower hi h60 ho hn]
    rfl
  simp only [tags, h1, Option.map_some]
theorem szJ (a b : ByteArray) : (a ++ ⟨#[60]⟩ ++ b).size = a.size + 1 + b.size := by
  rw [ByteArray.size_append, ByteArray.size_append]; rfl
theorem btJ_left (a b : ByteArray) (j : Nat) (h : j < a.size) : bt (a ++ ⟨#[60]⟩ ++ b) (j : Nat) = bt a (j : Nat) := by
  have e : (a ++ ⟨#[60]⟩ : ByteArray).size = a.size + 1 := by rw [ByteArray.size_append]; rfl
  rw [bt_app_left _ _ _ (by omega) (by omega), bt_app_left _ _ _ (by omega) (by omega)]
theorem btJ_mid (a b : ByteArray) : bt (a ++ ⟨#[60]⟩ ++ b) (a.size : Nat) = 60 := by
  have e : (a ++ ⟨#[60]⟩ : ByteArray).size = a.size + 1 := by rw [ByteArray.size_append]; rfl
  rw [bt_app_left _ _ _ (by omega) (by omega), bt_app_right _ _ _ (by omega), Int.sub_self]
  rfl
theorem btJ_right (a b : ByteArray) (j : Nat) (h : j < b.size) : bt (a ++ ⟨#[60]⟩ ++ b) ((a.size + 1 + j : Nat) : Int) = bt b (j : Nat) := by
  have e : (a ++ ⟨#[60]⟩ : ByteArray).size = a.size + 1 := by rw [ByteArray.size_append]; rfl
  rw [bt_app_right _ _ _ (by omega), show (((a.size + 1 + j : Nat) : Int) - ((a ++ ⟨#[60]⟩ : ByteArray).size : Int)) = (j : Nat) by omega]
theorem no60 {a : ByteArray} (h : hasB a ⟨#[60]⟩ = false) (j : Nat) (hj : j < a.size) : bt a (j : Nat) ≠ 60 := fun e => hasB_not h j ((hasAt_byte a 60 j).2 ⟨hj, by rw [e]; rfl⟩)
theorem toldL (lower : ByteArray → Option ByteArray) (fold : ByteArray → ByteArray → Option Bool) (a b : ByteArray) (ha : hasB a ⟨#[60]⟩ = false) (hb : hasB b ⟨#[60]⟩ = false)
    (hn : 0 < b.size → lettersE (b.extract 0 1) 0 = false ∧ bt b 0 ≠ 47 ∧ bt b 0 ≠ 33 ∧ bt b 0 ≠ 63) :
    tags lower fold (a ++ ⟨#[60]⟩ ++ b) 0 [stepAll (a ++ ⟨#[60]⟩ ++ b)] = some [⟨0, ⟨#[]⟩, false, 0, false, (a ++ ⟨#[60]⟩ ++ b).size⟩] := by
  refine told_less lower fold (i := a.size) (by rw [szJ]; omega) (btJ_mid a b) (fun j h1 h2 => ?_) (fun h => ?_)
  · rw [szJ] at h1
    by_cases hj : j < a.size
    · rw [btJ_left a b j hj]; exact no60 ha j hj
    · obtain ⟨k, rfl⟩ : ∃ k, j = a.size + 1 + k := ⟨j - a.size - 1, by omega⟩
      rw [btJ_right a b k (by omega)]; exact no60 hb k (by omega)
  · rw [szJ] at h
    have := btJ_right a b 0 (by omega)
    obtain ⟨h1, h2, h3, h4⟩ := hn (by omega)
    rw [Nat.add_zero] at this
    rw [this]
    refine ⟨h3, h4, h2, ?_⟩
    unfold lettersE at h1
    have hs : (b.extract 0 1).size = 1 := by simp; omega
    rw [if_pos (by omega)] at h1
    unfold lettersE at h1
    rw [if_neg (by omega), Bool.and_true] at h1
    have : bt (b.extract 0 1) 0 = bt b 0 := by rw [bt_extract _ _ _ _ (by omega) (by omega) (by omega)]; rfl
    have h1' : ltr (bt (b.extract 0 1) 0) = false := h1
    rw [this] at h1'
    exact h1'
theorem toldS (lower : ByteArray → Option ByteArray) (fold : ByteArray → ByteArray → Option Bool) {s a b : ByteArray} (hs : s = a ++ ⟨#[60]⟩ ++ b) (ha : hasB a ⟨#[60]⟩ = false) (hb : hasB b ⟨#[60]⟩ = false)
    (hn : 0 < b.size → lettersE (b.extract 0 1) 0 = false ∧ bt b 0 ≠ 47 ∧ bt b 0 ≠ 33 ∧ bt b 0 ≠ 63) :
    tags lower fold s 0 [stepAll s] = some [⟨0, ⟨#[]⟩, false, 0, false, s.size⟩] := by
  subst hs
  exact toldL lower fold a b ha hb hn
theorem pos_of {a : ByteArray} (h : ¬ a = ⟨#[]⟩) : 0 < a.size := by
  rcases Nat.eq_zero_or_pos a.size with e | e
  · exact absurd (ByteArray.ext (Array.eq_empty_of_size_eq_zero e)) h
  · exact e
theorem szA {a : ByteArray} (h : a.size ≤ 4294967280) : a.size + (⟨#[60]⟩ : ByteArray).size ≤ 9223372036854775807 := by
  have : (⟨#[60]⟩ : ByteArray).size = 1 := rfl
  omega
theorem szB' {a b : ByteArray} (h : a.size + 1 + b.size ≤ 4294967280) : (a ++ ⟨#[60]⟩ : ByteArray).size + b.size ≤ 9223372036854775807 := by
  have e : (a ++ ⟨#[60]⟩ : ByteArray).size = a.size + 1 := by rw [ByteArray.size_append]; rfl
  omega
theorem szC {a b : ByteArray} (h : a.size + 1 + b.size ≤ 4294967280) : (a ++ ⟨#[60]⟩ ++ b).size ≤ 4294967280 := by rw [szJ]; exact h
set_option maxHeartbeats 1000000 in
set_option maxRecDepth 100000 in
theorem laws_FnTagsLess.calls (a0 a1 : ByteArray) (r : Bool) (w : World) (h : r = true ∧ a0.size ≤ 140737488351232 ∧ a1.size ≤ 140737488351232) :
    Calls Tryd.prog 11 #[.string a0, .string a1] w fun e w' => e = .returned (.bool r) ∧ Below w.heap.size w w' := by
  obtain ⟨rfl, hs0, hs1⟩ := h
  have post : ∀ (f : Fr) (m : Mem), Rx.look f 4 = some (.bool true) → PJ ⟨80, [], fun _ => False, w⟩ (bodyPost Tryd.prog Tryd.f11 (fun e w' => e = .returned (.bool true) ∧ Below w.heap.size w w') .ret) f m := fun f m hf =>
    ret1 rfl rfl hf (fun w' hw' => ⟨rfl, hw'.2.below (fun k _ h => h) (Nat.le_refl _)⟩)
  refine enter (fun _ => False) 80 [] Tryd.func11 rfl rfl rfl (vs := [.string a0, .string a1]) (Has.nil _) ?_
  conv => arg 2; arg 2; whnf
  obtain ⟨s, hs⟩ : ∃ s, s = a0 ++ ⟨#[60]⟩ ++ a1 := ⟨_, rfl⟩
  obtain ⟨e, he⟩ : ∃ e, e = a1.extract 0 1 := ⟨_, rfl⟩
  have hes : e.size ≤ 1 := by rw [he]; simp; omega
  have hss : s.size = a0.size + 1 + a1.size := by rw [hs, szJ]
  repeat' (first | (show PJ _ (Code.wp _ _ _) _ _; first | refine cseq ?_ | refine rtext ?_ | refine ctrue rfl ?_ | refine cfalse rfl ?_ | refine cskip ?_ | refine cblk ?_ | refine cret ?_ | refine cexit ?_ | refine csplit' rfl (fun hq => ?_) (fun hq => ?_)  | refine rquiet mixed (by kernel_rfl) ?_) | (show PJ _ (Exit.then _ _ _) _ _; first | refine tnorm ?_ | refine tret ?_ | refine texit ?_) | (show PJ _ (Exit.inBlock _ _ _) _ _; first | refine bnorm ?_ | refine bret ?_ | refine bexit ?_ | refine bother rfl ?_) | (show PJ _ (wpList _ _ _ _) _ _; refine jlist ?_) | (show J _ _ _ _ _ _ [] _ _; refine jnil ?_) | (show J _ _ _ _ _ _ (_ :: _) _ _; first | refine js rfl rfl ?_ | (show J _ _ _ _ _ _ (⟨_, .move _, _, _, _, _⟩ :: _) _ _; refine jy (ymove rfl) rfl rfl ?_) | (show J _ _ _ _ _ _ (⟨_, .nilCheck _, _, _, _, _⟩ :: _) _ _; refine jy (ynil rfl) rfl rfl ?_) | (show J _ _ _ _ _ _ (⟨_, .fieldAddr _ _ _, _, _, _, _⟩ :: _) _ _; refine jy (yfield rfl (by first | exact fb27_0 | exact fb27_1 | exact fb27_2 | exact fb32_0 | exact fb32_1 | exact fb32_2 | exact fb53_0 | exact fb53_1 | exact fb53_2 | exact fb53_3) rfl) rfl rfl ?_) | (show J _ _ _ _ _ _ (⟨_, .load _ _, _, _, _, _⟩ :: _) _ _; first | refine jy (yload (i := 0) rfl rfl rfl (by first | exact one3 | exact one9 | exact one4 | exact one51)) rfl rfl ?_ | refine jy (yload (i := 1) rfl rfl rfl (by first | exact one3 | exact one9 | exact one4 | exact one51)) rfl rfl ?_ | refine jy (yloads (i := 0) rfl rfl (by first | exact ag53 | exact ag27 | exact ag32)) rfl rfl ?_ | refine jy (yload (i := 2) rfl rfl rfl (by first | exact one3 | exact one9 | exact one4 | exact one51)) rfl rfl ?_ | refine jy (yload (i := 3) rfl rfl rfl (by first | exact one3 | exact one9 | exact one4 | exact one51)) rfl rfl ?_ | refine jy (yloads (i := 1) rfl rfl (by first | exact ag53 | exact ag27 | exact ag32)) rfl rfl ?_) | (show J _ _ _ _ _ _ (⟨_, .assign _, _, _, _, _⟩ :: _) _ _; refine jy (yassign rfl) rfl rfl ?_) | (show J _ _ _ _ _ _ (⟨_, .binOp _ _ _ _ _, _, _, _, _⟩ :: _) _ _; first | (show J _ _ _ _ _ _ (⟨_, .binOp .add 9 _ _ _, _, _, _, _⟩ :: _) _ _; first | refine jy (ysadd (a := a0) (b := ⟨#[60]⟩) rfl rfl (szA (by omega)) rfl) rfl rfl ?_ | refine jy (ysadd (a := a0 ++ ⟨#[60]⟩) (b := a1) rfl rfl (szB' (by omega)) hs.symm) rfl rfl ?_) | (show J _ _ _ _ _ _ (⟨_, .binOp .neq 9 _ _ _, _, _, _, _⟩ :: _) _ _; refine jsneq rfl rfl rfl rfl (fun hq => ?_) (fun hq => ?_); have hz := pos_of hq) | refine jy (ygtr rfl rfl (by first | exact decide_eq_true (by omega) | exact decide_eq_false (by omega))) rfl rfl ?_ | refine jgtr rfl rfl rfl rfl (fun hq => ?_) (fun hq => ?_) | refine jseql rfl rfl rfl rfl (fun hq => ?_) (fun hq => ?_) | refine jsneq rfl rfl rfl rfl (fun hq => ?_) (fun hq => ?_) | refine jy (ysadd rfl rfl (by omega) rfl) rfl rfl ?_ | refine jy (ysub rfl rfl (i64_in (by omega) (by omega))) rfl rfl ?_ | refine jy (yadd rfl rfl (i64_in (by omega) (by omega))) rfl rfl ?_ | refine jy (ylss rfl rfl (by first | exact decide_eq_true (by omega) | exact decide_eq_false (by omega))) rfl rfl ?_ | refine jlss rfl rfl rfl rfl (fun hq => ?_) (fun hq => ?_) | refine jy (yeql rfl rfl (by first | exact decide_eq_true (by omega) | exact decide_eq_false (by omega))) rfl rfl ?_ | refine jeql rfl rfl rfl rfl (fun hq => ?_) (fun hq => ?_) | refine jy (ygeq rfl rfl (by first | exact decide_eq_true (by omega) | exact decide_eq_false (by omega))) rfl rfl ?_ | refine jgeq rfl rfl rfl rfl (fun hq => ?_) (fun hq => ?_)) | (show J _ _ _ _ _ _ (⟨_, .store _ _ _, _, _, _, _⟩ :: _) _ _; first | refine jstore (i := 0) rfl rfl rfl rfl rfl (by first | exact si3 | exact si9 | exact si51 | exact si4 | exact si53 | exact si27 | exact si49) (by first | exact hS | exact .inr hT) ?_ | refine jstore (i := 1) rfl rfl rfl rfl rfl (by first | exact si3 | exact si9 | exact si51 | exact si4 | exact si53 | exact si27 | exact si49) (by first | exact hS | exact .inr hT) ?_ | refine jstores (i := 0) rfl rfl rfl rfl rfl (by first | exact si3 | exact si9 | exact si51 | exact si4 | exact si53 | exact si27 | exact si49) (.inr hT) ?_ | refine jstores (i := 0) rfl rfl rfl rfl rfl (by first | exact si27 | exact si49 | exact si53) (.inr (by assumption)) ?_ | refine jstorep (i := 1) rfl rfl rfl rfl rfl sz30 (.inr (by assumption)) ?_ | refine jstore (i := 0) rfl rfl rfl rfl rfl (by first | exact si3 | exact si4) (.inr (by assumption)) ?_ | refine jstore (i := 1) rfl rfl rfl rfl rfl (by first | exact si3 | exact si4) (.inr (by assumption)) ?_) | (show J _ _ _ _ _ _ (⟨_, .pick _ _ _, _, _, _, _⟩ :: _) _ _; first | refine jy (ypick1 rfl rfl) rfl rfl ?_ | refine jy (ypick0 rfl rfl) rfl rfl ?_) | (show J _ _ _ _ _ _ (⟨_, .unOp _ _ _, _, _, _, _⟩ :: _) _ _; refine jy (ynot rfl rfl) rfl rfl ?_) | (show J _ _ _ _ _ _ (⟨_, .index _ _ _, _, _, _, _⟩ :: _) _ _; refine jy (yidx (c := bt _ _) rfl rfl und9 (by omega) (by omega) rfl) rfl rfl ?_) | (show J _ _ _ _ _ _ (⟨_, .slice _ _ _ _ _, _, _, _, _⟩ :: _) _ _; refine jy (yslice rfl rfl rfl und9 (by omega) (by omega) (by omega) rfl) rfl rfl ?_) | (show J _ _ _ _ _ _ (⟨_, .call _, _, _, _, _⟩ :: _) _ _; first | (show J _ _ _ _ _ _ (⟨_, .call ⟨.value (.func 25), _, _⟩, _, _, _, _⟩ :: _) _ _; refine jcall (ι := Nat) (v := fun g => .slice (some ⟨g, 0, none⟩) 1 1) (m' := fun g => (g, allCells s 1 1, 27) :: []) (fun _ => True) bo25 rfl rfl rfl (allC s 1 (by omega) (by omega) _ _) (fun G _ => ?_)) | (show J _ _ _ _ _ _ (⟨_, .call ⟨.value (.func 18), _, _⟩, _, _, _, _⟩ :: _) _ _; refine jcall (ι := Row) (v := fun row => row.val 1) (m' := fun row => [(G, allCells s 1 1, 27)] ++ row.mem (List.flatMap NextW.Told.cells [⟨0, ⟨#[]⟩, false, 0, false, s.size⟩]) 32) (fun row => row.ok w.heap.size 6 1 (List.flatMap NextW.Told.cells [⟨0, ⟨#[]⟩, false, 0, false, s.size⟩])) bo18 rfl rfl rfl (tagsC (fun _ => none) (fun _ _ => none) s 0 [stepAll s] 1 _ _ _ 0 G [] rfl (fun _ _ h => by cases h) (fun _ _ _ h => by cases h) (by omega) (by simp) (toldS _ _ hs (by assumption) (by assumption) (by first | exact fun h => absurd h (by rw [‹a1 = _›]; exact Nat.lt_irrefl _) | exact fun _ => ⟨(he ▸ ‹lettersE e 0 = false›), ‹¬ bt a1 0 = 47›, ‹¬ bt a1 0 = 33›, ‹¬ bt a1 0 = 63›⟩))) (fun row hrow => ?_); obtain ⟨g', cap, rr, rfl⟩ := row_at hrow) | (show J _ _ _ _ _ _ (⟨_, .call ⟨.value (.func 17), _, _⟩, _, _, _, _⟩ :: _) _ _; refine jcallq bo17 rfl rfl rfl (hasBC _ _ (by omega) (by decide) _ _) ?_; refine jcases (fun hq => ?_) (fun hq => ?_)) | (show J _ _ _ _ _ _ (⟨_, .call ⟨.value (.func 16), _, _⟩, _, _, _, _⟩ :: _) _ _; refine jcallq bo16 rfl rfl rfl (lettersC _ (by omega) _ _) ?_; refine jcases (fun hq => ?_) (fun hq => ?_)) | (show J _ _ _ _ _ _ (⟨_, .call ⟨.value (.func 24), _, _⟩, _, _, _, _⟩ :: _) _ _; refine jcallq bo24 rfl rfl rfl (beginsC _ _ (by omega) (by decide) _ _) ?_; refine jcases (fun hq => ?_) (fun hq => ?_)) | refine jy (ylens rfl und9) rfl rfl ?_ | refine jy (ylenl rfl und24) rfl rfl ?_) | (show J _ _ _ _ _ _ (⟨_, .extract _ _, _, _, _, _⟩ :: _) _ _; refine jy (yextractL rfl rfl) rfl rfl ?_) | (show J _ _ _ _ _ _ (⟨_, .slice _ _ none _ _, _, _, _, _⟩ :: _) _ _; refine jy (yslice0 (r := e) rfl rfl und9 (by omega) (by omega) he.symm) rfl rfl ?_) | (show J _ _ _ _ _ _ (⟨_, .indexAddr _ _ _, _, _, _, _⟩ :: _) _ _; refine jy (yatb (o' := 0) rfl rfl und24 sz32 (by omega) (by omega) rfl) rfl rfl ?_) | (show J _ _ _ _ _ _ (⟨_, .slice _ _ none _ _, _, _, _, _⟩ :: _) _ _; refine jy (yslice0 rfl rfl und9 (by omega) (by omega) rfl) rfl rfl ?_) | (show J _ _ _ _ _ _ (⟨_, .alloc _, _, _, _, _⟩ :: _) _ _; first | refine jalloc bz27 rfl (fun T1 hT1 => ?_) | refine jalloc bz32 rfl (fun T2 hT2 => ?_) | refine jalloc bz53 rfl (fun T3 hT3 => ?_) | refine jalloc bz49 rfl (fun g hg => ?_)) | (show J _ _ _ _ _ _ (⟨_, .build 30 _, _, _, _, _⟩ :: _) _ _; refine jy (ybuild rfl (bu30 _ _ _ _)) rfl rfl ?_) | (show J _ _ _ _ _ _ (⟨_, .build 27 _, _, _, _, _⟩ :: _) _ _; refine jy (ybuild rfl (bu27 _ _ _)) rfl rfl ?_) | refine jlit1 rfl rfl rfl gr24 rfl rfl rfl (fun G hG => ?_) | (show J _ _ _ _ _ _ (⟨_, .build _ _, _, _, _, _⟩ :: _) _ _; refine jy (ybuild rfl (by first | exact bu0 | exact bu3 _)) rfl rfl ?_)))
  all_goals first
    | exact post _ _ rfl
    | exact absurd rfl hq
end Go.Proofs.YthjddnmfpdcjnaaDoor.PFnTagsLess
