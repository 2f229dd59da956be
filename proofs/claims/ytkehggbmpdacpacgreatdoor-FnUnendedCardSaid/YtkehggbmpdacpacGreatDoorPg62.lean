/- Pages: the shape of items; whether a page ends with an error. -/
import Derived.Test.YtkehggbmpdacpacGreatDoorLwBg
import Derived.Test.YtkehggbmpdacpacGreatDoorPl3
import Derived.Test.YtkehggbmpdacpacGreatDoorKp15
set_option maxRecDepth 100000
set_option linter.unusedVariables false
set_option linter.unusedSimpArgs false
set_option linter.unusedSectionVars false
namespace Go.Proofs.YtkehggbmpdacpacGreatDoor.Pg
open Go.Rx hiding bt
open Go.RowKit Go.Proofs.YtkehggbmpdacpacGreatDoor.Dec0 Go.Proofs.YtkehggbmpdacpacGreatDoor.Lex0
theorem bo53 : bodyB Tryz.prog 38 = true := by kernel_rfl
theorem fb42_1 : fieldB Tryz.prog 51 1 = some 1 := by kernel_rfl
theorem ybne {X : Cx} {P : Program} {f : Fr} {m : Mem} {ty : TypeId} {pos : String} {af : Array Edge} {gd : Option (Nat × Bool)} {d : Option Tmp} {x y : Operand} {b b' c : Bool} {t t' : TypeId} (hx : evF f x = some (.bool b)) (hy : evF f y = some (.bool b')) (ht : P.underlying t = some .bool) (hc : (!(b == b')) = c) : Yl X P f m ⟨d, .binOp .neq t x y t', ty, pos, af, gd⟩ (.bool c) := .of fun a w st => by
  subst hc
  simp [execOp, st.agr.eval hx, st.agr.eval hy, binOp, eqGuard, run_equal_bool (P := P) (w := w) t b b' ht]
structure ShF (text : T) (a : Nat) (x : Ti) : Prop where
  ty : 2 ≤ x.ty ∧ x.ty ≤ 18
  fl : x.failed = false
  is : x.is = bitsT x.ty (!isSpT x.text)
  at_ : a ≤ x.pos ∧ x.pos ≤ text.length
  pre : x.ty = 15 ∨ x.ty = 16 ∨ x.text.isPrefixOf (text.drop x.pos) = true
  nl : x.ty = 17 → Txt0.hasT [10] x.text = false
theorem shF_of {text : T} {a : Nat} {x : Ti} (h : shIt text a false x = true) : ShF text a x := by
  unfold shIt at h
  simp only [Bool.and_eq_true, beq_iff_eq, decide_eq_true_eq, Bool.or_eq_true, Bool.not_eq_true'] at h
  obtain ⟨⟨⟨⟨h1, h2⟩, h3⟩, h4⟩, h5⟩ := h
  have h1' : ¬ x.ty ≤ 1 := by simpa using h1
  rcases h5 with h5 | h5
  · omega
  · obtain ⟨⟨⟨⟨h6, h7⟩, h8⟩, h9⟩, h10⟩ := h5
    refine ⟨⟨by omega, h3⟩, ?_, h4, ⟨h6, h7⟩, ?_, fun h => ?_⟩
    · rw [h2]; exact beq_eq_false_iff_ne.2 (by omega)
    · rcases h8 with (h8 | h8) | h8
      · exact .inl h8
      · exact .inr (.inl h8)
      · exact .inr (.inr h8)
    · rw [Bool.and_eq_false_iff] at h10
      rcases h10 with h10 | h10
      · rw [h] at h10; simp at h10
      · exact h10
structure ShE (x : Ti) : Prop where
  ty : x.ty = 0
  fl : x.failed = true
  is : x.is = bitsT x.ty (!isSpT x.text)
theorem shE_of {text : T} {a : Nat} {x : Ti} (h : shIt text a true x = true) (h0 : x.ty = 0) : ShE x := by
  unfold shIt at h
  simp only [Bool.and_eq_true, beq_iff_eq, decide_eq_true_eq] at h
  obtain ⟨⟨⟨⟨h1, h2⟩, h3⟩, h4⟩, h5⟩ := h
  exact ⟨h0, by rw [h2, h0]; rfl, h4⟩
def ShI (text : T) (l : List Ti) (j a d : Nat) : Prop := j ≤ l.length ∧ ∃ D, D ≤ 1 ∧ shLoop text (l.drop j) a d = some D
set_option maxHeartbeats 4000000 in
theorem shape_calls {w : World} {s : ByteArray} {v : Value} {l0 : List Ti} {e : Ti} (hs : s.size ≤ 1099511627776) (hv : TisAt w v (l0 ++ [e])) (he : e.ty = 0) (hln : (l0 ++ [e]).length ≤ 1000000000) (hsh : shapeB s.data.toList (l0 ++ [e]) = true) (hxa : ∀ x ∈ l0 ++ [e], asc x.text ∧ x.text.length ≤ 1099511627776) :
    Calls Tryz.prog 38 #[.string s, v] w fun e w' => e = .returned (.bool true) ∧ Below w.heap.size w w' := by
  generalize hl : l0 ++ [e] = l at *
  have hpos : 0 < l.length := by rw [← hl]; simp
  have hlast : ∀ x, l[l.length - 1]? = some x → x = e := fun x hx => by rw [← hl] at hx; simpa using hx.symm
  obtain ⟨A, c, rfl, hk⟩ := hv
  refine enter (fun _ => False) 133 [] Tryz.func38 rfl rfl rfl (vs := [.string s, .slice A l.length c]) (Has.nil _) ?_
  conv => arg 2; arg 2; whnf
  have post : ∀ (f : Fr) (m : Mem), Rx.look f 4 = some (.bool true) → PJ ⟨133, [], fun _ => False, w⟩ (bodyPost Tryz.prog Tryz.f38 (fun e w' => e = .returned (.bool true) ∧ Below w.heap.size w w') .ret) f m := fun f m hf =>
    ret1 rfl rfl hf (fun w' hw' => ⟨rfl, hw'.2.below (fun k _ h => h) (Nat.le_refl _)⟩)
  repeat' ((fail_if_success (show PJ _ (Code.wp _ (Code.loop _) _) _ _)); first | first | refine cseq ?_ | refine rtext ?_ | refine ctrue rfl ?_ | refine cfalse rfl ?_ | refine cskip ?_ | refine cblk ?_ | refine cret ?_ | refine tret ?_ | refine jnil ?_ | (first | refine jmv rfl rfl rfl ?_ | refine jas_ rfl rfl rfl ?_ | (show Jo _ (.binOp _ _ _ _ _); ((show Jo _ (.binOp .gtr _ _ _ _); refine jy (ygtr rfl rfl (by (exact decide_eq_true (by omega)))) rfl rfl ?_))) | (show Jo _ (.call _); first | (show Jo _ (.call ⟨.builtin .len, _, _⟩); refine jy (ylenl rfl und24) rfl rfl ?_) | (show Jo (some 12) (.call ⟨.value (.func 14), _, _⟩); refine jcallq Lw.boHas rfl rfl rfl (Lw.has_in (by omega) (by decide)) ?_; refine jcases (fun hh => ?_) (fun hh => ?_)))))
  all_goals first | exact post _ _ rfl | skip
  have h0 : ShI s.data.toList l 0 0 0 := by
    unfold shapeB at hsh
    rw [show Txt0.hasT dotInl s.data.toList = false from hh] at hsh
    refine ⟨Nat.zero_le _, ?_⟩
    rw [List.drop_zero]
    cases hq : shLoop s.data.toList l 0 0 with
    | none => rw [hq] at hsh; simp at hsh
    | some D => rw [hq] at hsh; simp at hsh; exact ⟨D, hsh.2, rfl⟩
  refine fin (f' := [(0, .string s), (1, .slice A l.length c), (5, .int .i64 (0 : Nat)), (6, .int .i64 (0 : Nat)), (16, .slice A l.length c), (17, .int .i64 l.length), (18, .int .i64 (0 : Nat))]) (m' := [])
    (cloop (ι := Nat × Nat × Nat) (fun q => [(0, .string s), (1, .slice A l.length c), (5, .int .i64 (q.2.2 : Nat)), (6, .int .i64 (q.2.1 : Nat)), (16, .slice A l.length c), (17, .int .i64 l.length), (18, .int .i64 (q.1 : Nat))]) (fun _ => []) (fun n q => n = l.length - q.1 ∧ q.2.2 ≤ q.1 ∧ ShI s.data.toList l q.1 q.2.1 q.2.2) l.length (0, 0, 0) ⟨rfl, Nat.le_refl _, h0⟩ ?_) ⟨rfl, rfl, rfl, rfl, rfl, rfl, rfl, trivial⟩ rfl
  rintro n ⟨j, a, dv⟩ ⟨rfl, hdj, hj, D, hD, hI⟩ K hK
  dsimp only at hdj hj hI hK ⊢
  by_cases hlt : j < l.length
  case neg =>
    obtain rfl : j = l.length := by omega
    rw [List.drop_length] at hI
    obtain rfl : dv = D := Option.some.inj hI
    repeat' (first | refine cseq ?_ | refine rtext ?_ | refine cfalse rfl ?_ | refine cret ?_ | refine cexit ?_ | refine jnil ?_ | (first | refine jmv rfl rfl rfl ?_ | refine jas_ rfl rfl rfl ?_ | (show Jo _ (.binOp _ _ _ _ _); first | (show Jo _ (.binOp .leq _ _ _ _); refine jy (yleq rfl rfl (by (exact decide_eq_true (by omega)))) rfl rfl ?_) | (show Jo _ (.binOp .gtr _ _ _ _); refine jy (ygtr rfl rfl (by (exact decide_eq_true (by omega)))) rfl rfl ?_) | refine jy (ylss rfl rfl (by (exact decide_eq_false (by omega)))) rfl rfl ?_) | (show Jo _ (.pick _ _ _); refine jy (ypick1 rfl rfl) rfl rfl ?_) | (show Jo _ (.call _); ((show Jo _ (.call ⟨.builtin .len, _, _⟩); refine jy (ylenl rfl und24) rfl rfl ?_)))))
    exact post _ _ rfl
  obtain ⟨x, hx⟩ : ∃ x, l[j]? = some x := ⟨_, List.getElem?_eq_getElem hlt⟩
  obtain ⟨ad, rfl, hc⟩ := hk j x hx
  have hxl := hxa x (List.mem_of_getElem? hx)
  obtain ⟨hxa, hxz⟩ := hxl
  have hdrop : l.drop j = x :: l.drop (j + 1) := by
    rw [List.drop_eq_getElem_cons hlt]
    congr 1
    exact Option.some.inj ((List.getElem?_eq_getElem hlt).symm.trans hx)
  rw [hdrop] at hI
  have hI2 : (if shIt s.data.toList a (l.drop (j + 1)).isEmpty x then shLoop s.data.toList (l.drop (j + 1)) (if x.ty = 0 then a else x.pos) (if x.ty = 2 then dv + 1 else dv) else none) = some D := hI
  cases hit : shIt s.data.toList a (l.drop (j + 1)).isEmpty x
  · rw [hit] at hI2; cases hI2
  rw [hit, if_pos rfl] at hI2
  by_cases hjl : j = l.length - 1
  · have hem : (l.drop (j + 1)).isEmpty = true := by rw [List.isEmpty_iff]; exact List.drop_eq_nil_of_le (by omega)
    have hxe := hlast x (by rw [← hjl]; exact hx)
    rw [hem] at hit
    have hty : x.ty = 0 := by rw [hxe]; exact he
    obtain ⟨_, hfl, his⟩ := shE_of hit hty
    have hk2 := hK (l.length - (j + 1)) (j + 1, a, dv) (by omega) ⟨rfl, by dsimp only; omega, by dsimp only; omega, D, hD, by rw [hty] at hI2; exact hI2⟩
    dsimp only at hk2
    repeat' (first | first | (show PJ _ (Code.wp _ _ _) _ _; first | refine cseq ?_ | refine rtext ?_ | refine ctrue rfl ?_ | refine cfalse rfl ?_ | refine cskip ?_ | refine cblk ?_ | refine cexit ?_ | (show PJ _ (Code.wp _ (Code.region 8 _ true) _) _ _; refine rany [(g8, tiC x, .c 51)] mixed ?_)) | refine tnorm ?_ | refine jnil ?_ | (first | (show Jo (some 22) (.load _ _); refine jy (yloadsw (c := tiC x) rfl hc (fun h => h) ag42) rfl rfl ?_) | (show Jo _ (.load _ _); refine jy (yload (i := 0) rfl rfl rfl one3) rfl rfl ?_) | refine jmv rfl rfl rfl ?_ | (show Jo _ (.fieldAddr _ _ _); refine jy (yfield rfl fb42_0 rfl) rfl rfl ?_) | refine jas_ rfl rfl rfl ?_ | (show Jo _ (.binOp _ _ _ _ _); first | (show Jo (some 125) (.binOp .add _ _ _ _); refine jy (yadd (c := ((j + 1 : Nat) : Int)) rfl rfl (by rw [i64_in (by omega) (by omega)]; omega)) rfl rfl ?_) | (show Jo _ (.binOp .sub _ _ _ _); refine jy (ysub (c := ((l.length - 1 : Nat) : Int)) rfl rfl (by rw [i64_in (by omega) (by omega)]; omega)) rfl rfl ?_) | refine jy (ylss rfl rfl (by (exact decide_eq_true (by omega)))) rfl rfl ?_ | refine jy (yeql rfl rfl (by (exact decide_eq_true (by omega)))) rfl rfl ?_) | (show Jo _ (.store _ _ _); refine jstores (i := 0) rfl rfl rfl rfl rfl si42 (.inr hT8) ?_) | (show Jo _ (.call _); first | (show Jo _ (.call ⟨.builtin .len, _, _⟩); refine jy (ylenl rfl und24) rfl rfl ?_) | (show Jo _ (.call ⟨.value (.func 42), _, _⟩); refine jcallq (v := .int .u16 (x.is : Nat)) bo35 rfl rfl rfl (quietC fun w _ => by rw [his]; exact bits_calls (tx := ba x.text) (by show (ba x.text).size ≤ _; rw [ba_size]; omega) hxa w) ?_)) | (show Jo _ (.indexAddr _ _ _); refine jy (yat (p' := ad.add (5 * j)) rfl rfl und24 sz42 (by omega) (by omega) (by congr 1; omega)) rfl rfl ?_) | (show Jo _ (.alloc _); refine jalloc ze42 rfl (fun g8 hT8 => ?_))) | first | (show JT _ _ _ _ _ _ [] _ _; refine jtnil ?_) | (first | (show JTo (some 54) (.load _ _); refine jty (yloads (i := 0) rfl rfl ag42) rfl rfl ?_) | (show JTo _ (.load _ _); refine jty (yload (i := 0) rfl rfl rfl one3) rfl rfl ?_) | (show JTo _ (.move _); refine jty (ymove rfl) rfl rfl ?_) | (show JTo _ (.fieldAddr _ _ _); refine jty (yfield rfl (by first | exact fb42_0 | exact fb42_3 | exact fb42_4) rfl) rfl rfl ?_) | (show JTo _ (.binOp _ _ _ _ _); first | (show JTo _ (.binOp .neq 4 _ _ _); refine jty (ybne (c := false) rfl rfl und4' (by first | rfl | (rw [hfl]; rfl))) rfl rfl ?_) | (show JTo _ (.binOp .neq 49 _ _ _); refine jty (yneq (c := false) rfl rfl (decide_eq_false (by simp))) rfl rfl ?_) | (show JTo _ (.binOp .leq _ _ _ _); refine jty (yleq rfl rfl (by (exact decide_eq_true (by omega)))) rfl rfl ?_) | (show JTo _ (.binOp .gtr _ _ _ _); refine jty (ygtr rfl rfl (by (exact decide_eq_false (by omega)))) rfl rfl ?_) | refine jty (ylss rfl rfl (by (exact decide_eq_false (by omega)))) rfl rfl ?_ | refine jty (yeql rfl rfl (by (exact decide_eq_true (by omega)))) rfl rfl ?_) | (show JTo _ (.pick _ _ _); refine jty (ypick0 rfl rfl) rfl rfl ?_)) | first | (show PJ _ (WKeep _ _ _) _ _; refine jas (fun _ h => h.less (by repeat (first | exact List.nil_sublist _ | refine List.Sublist.cons_cons _ ?_))) ?_) | (show PJ _ (WIf _ _ _) _ _; refine jaw ?_) | (show PJ _ (WAny _ _ _ _ _ _ _) _ _; first | refine jaq (g' := 3) (D := []) [0, 1, 2, 3, 4, 5, 6, 7, 8, 9, 10, 11, 12, 13, 14, 15, 16, 17, 18, 19, 20, 21, 22, 23, 24, 25, 26] rfl (fun _ h => h.less (by repeat (first | exact List.nil_sublist _ | refine List.Sublist.cons_cons _ ?_))) (by kernel_rfl) (by kernel_rfl) rfl (fun _ d _ _ _ h => by cases d <;> exact h) rfl ?_ | refine ja1 (g' := 2) (D := [0, 1, 2, 3, 4, 5, 6, 7, 8, 9, 10, 11, 12, 13, 14, 15, 16, 17, 18, 19, 20, 21, 22, 23, 24, 25, 26]) 27 rfl rfl (by kernel_rfl) rfl ?_ | refine jaq (g' := 0) (D := [0, 1, 2, 3, 4, 5, 6, 7, 8, 9, 10, 11, 12, 13, 14, 15, 16, 17, 18, 19, 20, 21, 22, 23, 24, 25, 26, 27]) [28, 29] rfl (fun _ h => h.less (by repeat (first | exact List.nil_sublist _ | refine List.Sublist.cons_cons _ ?_))) (by kernel_rfl) (by kernel_rfl) rfl (fun _ d _ _ _ h => by cases d <;> exact h) rfl ?_ | refine jadone rfl (by kernel_rfl) ?_))
    exact finS hk2 ⟨rfl, rfl, rfl, rfl, rfl, rfl, rfl, trivial⟩ (List.nil_sublist _)
  · have hem : (l.drop (j + 1)).isEmpty = false := by
      cases hd : l.drop (j + 1) with
      | nil => have := List.drop_eq_nil_iff.1 hd; omega
      | cons _ _ => rfl
    rw [hem] at hit
    obtain ⟨hty, hfl, his, hat, hpre, hnl0⟩ := shF_of hit
    rw [Txt0.size_list] at hat
    rw [if_neg (show ¬ x.ty = 0 by omega)] at hI2
    have hk2 := fun d' (hd : d' ≤ dv + 1) (h : d' = if x.ty = 2 then dv + 1 else dv) => hK (l.length - (j + 1)) (j + 1, x.pos, d') (by omega) ⟨rfl, by dsimp only; omega, by dsimp only; omega, D, hD, by dsimp only; rw [h]; exact hI2⟩
    dsimp only at hk2
    have hbeg : ¬ (x.ty = 15 ∨ x.ty = 16) → ∀ (m : Mem) (w' : World), Cl ⟨133, [], fun _ => False, w⟩ m w' → Calls Tryz.prog 22 #[.string s, .int .i64 (x.pos : Nat), .string (ba x.text)] w' fun e w'' => e = .returned (.bool true) ∧ Cl ⟨133, [], fun _ => False, w⟩ m w'' := fun h m w' hw' => by
      have h2 : x.text.isPrefixOf (s.data.toList.drop x.pos) = true := hpre.elim (fun h1 => absurd (.inl h1) h) (fun h1 => h1.elim (fun h1 => absurd (.inr h1) h) id)
      have h3 := Lw.begins_in (s := s) (x := ba x.text) (i := x.pos) (by omega) (by omega) (by rw [ba_size]; omega) w' hw'
      rw [decide_eq_true (Lw.pre_size (x := ba x.text) h2 hat.2), Bool.true_and, show (ba x.text).data.toList = x.text from rfl, h2] at h3
      exact h3
    have hnl : x.ty = 17 → ∀ (m : Mem) (w' : World), Cl ⟨133, [], fun _ => False, w⟩ m w' → Calls Tryz.prog 14 #[.string (ba x.text), .string ⟨#[10]⟩] w' fun e w'' => e = .returned (.bool false) ∧ Cl ⟨133, [], fun _ => False, w⟩ m w'' := fun h m w' hw' => by
      have h3 := Lw.has_in (s := ba x.text) (x := ⟨#[10]⟩) (by rw [ba_size]; omega) (by decide) w' hw'
      rw [show (ba x.text).data.toList = x.text from rfl, show (⟨#[10]⟩ : ByteArray).data.toList = [10] from rfl, hnl0 h] at h3
      exact h3
    repeat' (first | first | (show PJ _ (Code.wp _ _ _) _ _; first | refine cseq ?_ | refine rtext ?_ | refine ctrue rfl ?_ | refine cfalse rfl ?_ | refine cskip ?_ | refine cblk ?_ | (show PJ _ (Code.wp _ (Code.region 8 _ true) _) _ _; refine rany [(g8, tiC x, .c 51)] mixed ?_)) | refine tnorm ?_ | refine jnil ?_ | (first | (show Jo (some 22) (.load _ _); refine jy (yloadsw (c := tiC x) rfl hc (fun h => h) ag42) rfl rfl ?_) | (show Jo _ (.load _ _); refine jy (yload (i := 0) rfl rfl rfl one3) rfl rfl ?_) | refine js rfl rfl ?_ | refine jmv rfl rfl rfl ?_ | (show Jo _ (.fieldAddr _ _ _); refine jy (yfield rfl (by first | exact fb42_0 | exact fb42_1 | exact fb42_2) rfl) rfl rfl ?_) | refine jas_ rfl rfl rfl ?_ | (show Jo _ (.binOp _ _ _ _ _); first | (show Jo (some 122) (.binOp .add _ _ _ _); refine jy (yadd (c := ((dv + 1 : Nat) : Int)) rfl rfl (by rw [i64_in (by omega) (by omega)]; omega)) rfl rfl ?_) | (show Jo (some 125) (.binOp .add _ _ _ _); refine jy (yadd (c := ((j + 1 : Nat) : Int)) rfl rfl (by rw [i64_in (by omega) (by omega)]; omega)) rfl rfl ?_) | (show Jo _ (.binOp .sub _ _ _ _); refine jy (ysub (c := ((l.length - 1 : Nat) : Int)) rfl rfl (by rw [i64_in (by omega) (by omega)]; omega)) rfl rfl ?_) | (show Jo _ (.binOp .gtr _ _ _ _); refine jy (ygtr rfl rfl (by (exact decide_eq_false (by omega)))) rfl rfl ?_) | refine jy (ylss rfl rfl (by first | exact decide_eq_true (by omega) | exact decide_eq_false (by omega))) rfl rfl ?_ | refine jy (yeql rfl rfl (by (exact decide_eq_false (by omega)))) rfl rfl ?_ | refine jeql rfl rfl rfl rfl (fun hq => ?_) (fun hq => ?_)) | (show Jo _ (.store _ _ _); refine jstores (i := 0) rfl rfl rfl rfl rfl si42 (.inr hT8) ?_) | (show Jo _ (.pick _ _ _); first | refine jy (ypick1 rfl rfl) rfl rfl ?_ | refine jy (ypick0 rfl rfl) rfl rfl ?_) | refine jy (ynot rfl rfl) rfl rfl ?_ | (show Jo _ (.call _); first | (show Jo _ (.call ⟨.builtin .len, _, #[9]⟩); refine jy (ylens rfl Lw.und9) rfl rfl ?_) | (show Jo _ (.call ⟨.builtin .len, _, _⟩); refine jy (ylenl rfl und24) rfl rfl ?_) | (show Jo _ (.call ⟨.value (.func 42), _, _⟩); refine jcallq (v := .int .u16 (x.is : Nat)) bo35 rfl rfl rfl (quietC fun w _ => by rw [his]; exact bits_calls (tx := ba x.text) (by show (ba x.text).size ≤ _; rw [ba_size]; omega) hxa w) ?_) | (show Jo _ (.call ⟨.value (.func 22), _, _⟩); refine jcallq (v := .bool true) Lw.boBg rfl rfl rfl (hbeg (by omega) _) ?_) | (show Jo (some 115) (.call ⟨.value (.func 14), _, _⟩); refine jcallq (v := .bool false) Lw.boHas rfl rfl rfl (hnl (by omega) _) ?_)) | (show Jo _ (.indexAddr _ _ _); refine jy (yat (p' := ad.add (5 * j)) rfl rfl und24 sz42 (by omega) (by omega) (by congr 1; omega)) rfl rfl ?_) | (show Jo _ (.alloc _); refine jalloc ze42 rfl (fun g8 hT8 => ?_))) | first | (show JT _ _ _ _ _ _ [] _ _; refine jtnil ?_) | (first | (show JTo (some 54) (.load _ _); refine jty (yloads (i := 0) rfl rfl ag42) rfl rfl ?_) | (show JTo _ (.load _ _); refine jty (yload (i := 0) rfl rfl rfl one3) rfl rfl ?_) | (show JTo _ (.move _); refine jty (ymove rfl) rfl rfl ?_) | (show JTo _ (.fieldAddr _ _ _); refine jty (yfield rfl (by first | exact fb42_0 | exact fb42_3 | exact fb42_4) rfl) rfl rfl ?_) | (show JTo _ (.binOp _ _ _ _ _); first | (show JTo _ (.binOp .neq 4 _ _ _); refine jty (ybne (c := false) rfl rfl und4' (by first | rfl | (rw [hfl]; rfl))) rfl rfl ?_) | (show JTo _ (.binOp .neq 49 _ _ _); refine jty (yneq (c := false) rfl rfl (decide_eq_false (by simp))) rfl rfl ?_) | (show JTo _ (.binOp .leq _ _ _ _); refine jty (yleq rfl rfl (by (exact decide_eq_false (by omega)))) rfl rfl ?_) | (show JTo _ (.binOp .gtr _ _ _ _); refine jty (ygtr rfl rfl (by (exact decide_eq_false (by omega)))) rfl rfl ?_) | refine jty (ylss rfl rfl (by (exact decide_eq_false (by omega)))) rfl rfl ?_ | refine jty (yeql rfl rfl (by (exact decide_eq_false (by omega)))) rfl rfl ?_) | (show JTo _ (.pick _ _ _); refine jty (ypick0 rfl rfl) rfl rfl ?_)) | first | (show PJ _ (WKeep _ _ _) _ _; refine jas (fun _ h => h.less (by repeat (first | exact List.nil_sublist _ | refine List.Sublist.cons_cons _ ?_))) ?_) | (show PJ _ (WIf _ _ _) _ _; refine jaw ?_) | (show PJ _ (WAny _ _ _ _ _ _ _) _ _; first | refine jaq (g' := 3) (D := []) [0, 1, 2, 3, 4, 5, 6, 7, 8, 9, 10, 11, 12, 13, 14, 15, 16, 17, 18, 19, 20, 21, 22, 23, 24, 25, 26] rfl (fun _ h => h.less (by repeat (first | exact List.nil_sublist _ | refine List.Sublist.cons_cons _ ?_))) (by kernel_rfl) (by kernel_rfl) rfl (fun _ d _ _ _ h => by cases d <;> exact h) rfl ?_ | refine ja1 (g' := 2) (D := [0, 1, 2, 3, 4, 5, 6, 7, 8, 9, 10, 11, 12, 13, 14, 15, 16, 17, 18, 19, 20, 21, 22, 23, 24, 25, 26]) 27 rfl rfl (by kernel_rfl) rfl ?_ | refine jaq (g' := 0) (D := [0, 1, 2, 3, 4, 5, 6, 7, 8, 9, 10, 11, 12, 13, 14, 15, 16, 17, 18, 19, 20, 21, 22, 23, 24, 25, 26, 27]) [28, 29] rfl (fun _ h => h.less (by repeat (first | exact List.nil_sublist _ | refine List.Sublist.cons_cons _ ?_))) (by kernel_rfl) (by kernel_rfl) rfl (fun _ d _ _ _ h => by cases d <;> exact h) rfl ?_ | refine jadone rfl (by kernel_rfl) ?_))
    all_goals first
      | exact finS (hk2 (dv + 1) (Nat.le_refl _) (by rw [if_pos (by omega)])) ⟨rfl, rfl, rfl, rfl, rfl, rfl, rfl, trivial⟩ (List.nil_sublist _)
      | exact finS (hk2 dv (Nat.le_succ _) (by rw [if_neg (by omega)])) ⟨rfl, rfl, rfl, rfl, rfl, rfl, rfl, trivial⟩ (List.nil_sublist _)
end Go.Proofs.YtkehggbmpdacpacGreatDoor.Pg
