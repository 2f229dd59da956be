/- The page laws: texts that all of them use, joined (part 15): Pg55, Pg56, Pg57, LwHas, LwFits, LwAsc, LwNm, Sp1, Pg58, Pg59, Pl1. -/
import Derived.Test.YtkehggbmpdacpabGreatDoorProg
import Derived.Test.YtkehggbmpdacpabGreatDoorKp0
import Derived.Test.YtkehggbmpdacpabGreatDoorKp10
import Derived.Test.YtkehggbmpdacpabGreatDoorKp12
import Derived.Test.YtkehggbmpdacpabGreatDoorKp14
set_option maxRecDepth 100000
set_option linter.unusedVariables false
set_option linter.unusedSimpArgs false
set_option linter.unusedSectionVars false
namespace Go.Proofs.YtkehggbmpdacpabGreatDoor.Pg
open Go.Rx hiding bt
open Go.RowKit Go.Proofs.YtkehggbmpdacpabGreatDoor.Dec0 Go.Proofs.YtkehggbmpdacpabGreatDoor.Lex0
theorem bo25 : bodyB Tryz.prog 20 = true := by kernel_rfl
theorem fb29_0 : fieldB Tryz.prog 28 0 = some 0 := by kernel_rfl
theorem fb29_1 : fieldB Tryz.prog 28 1 = some 1 := by kernel_rfl
theorem one9' : oneB Tryz.prog 9 = true := by kernel_rfl
theorem si9' : (Tryz.prog.info? 9).map (·.size) = some 1 := by kernel_rfl
def bkB (g : Nat) (txt : ByteArray) (v : Value) : Nat × List Value × Bk := (g, [.string txt, v], .c 28)
theorem pass_calls {X : Cx} {g : Nat} (hg : X.may g) {txt s : ByteArray} {v : Value} {E : Mem} (hsz : txt.size + s.size ≤ 9223372036854775807) : ∀ w, Cl X (bkB g txt v :: E) w → Calls Tryz.prog 20 #[.pointer (some ⟨g, 0, none⟩), .string s] w fun e w' => e = .returned (.tuple #[]) ∧ Cl X (bkB g (txt ++ s) v :: E) w' := by
  intro w hw
  refine enterC 12 hw Tryz.func20 rfl rfl (vs := [.pointer (some ⟨g, 0, none⟩), .string s]) rfl ?_
  replace hg := Cx.may_sub (n := 12) (w := w) hg
  conv => arg 2; arg 2; whnf
  repeat' (first | (show PJ _ (Code.wp _ _ _) _ _; (refine rtext ?_)) | refine jnil ?_ | (first | refine jmv rfl rfl rfl ?_ | refine jy (ynil rfl) rfl rfl ?_ | (show Jo _ (.fieldAddr _ _ _); refine jy (yfield rfl fb29_0 rfl) rfl rfl ?_) | (show Jo _ (.load _ _); refine jy (yload (i := 0) rfl rfl rfl one9') rfl rfl ?_) | (show Jo _ (.binOp _ _ _ _ _); ((show Jo _ (.binOp .add _ _ _ _); refine jy (ysadd rfl rfl hsz rfl) rfl rfl ?_))) | (show Jo _ (.store _ _ _); refine jstore (i := 0) rfl rfl rfl rfl rfl si9' hg ?_)))
  exact end0 rfl rfl (fun w' hw' => ⟨rfl, hw.up hw'⟩)
theorem bo51 : bodyB Tryz.prog 44 = true := by kernel_rfl
theorem eg42 : Tryz.prog.eqGuardType Tryz.prog.depth 59 = false := by kernel_rfl
theorem ee42 (a b : Int) (c : ByteArray) (d : Bool) (e : Int) (a' b' : Int) (c' : ByteArray) (d' : Bool) (e' : Int) : eqE Tryz.prog 10000 59 (.agg [.int .i64 a, .int .i64 b, .string c, .bool d, .int .u16 e].toArray) (.agg [.int .i64 a', .int .i64 b', .string c', .bool d', .int .u16 e'].toArray) = some (decide (a = a') && (decide (b = b') && (decide (c = c') && ((d == d') && (decide (e = e') && true))))) := by kernel_rfl
theorem es42 (a b : Int) (c : ByteArray) (d : Bool) (e : Int) : eqE Tryz.prog 10000 59 (.agg [.int .i64 a, .int .i64 b, .string c, .bool d, .int .u16 e].toArray) (.agg [.int .i64 a, .int .i64 b, .string c, .bool d, .int .u16 e].toArray) = some true := by rw [ee42]; simp
theorem fb42_0 : fieldB Tryz.prog 59 0 = some 0 := by kernel_rfl
theorem fb42_3 : fieldB Tryz.prog 59 3 = some 3 := by kernel_rfl
theorem und4' : Tryz.prog.underlying 4 = some .bool := by kernel_rfl
theorem same_calls {w : World} (t : Ti) : Calls Tryz.prog 44 #[.agg (tiC t).toArray, .agg (tiC t).toArray] w fun e w' => e = .returned (.bool true) ∧ Below w.heap.size w w' := by
  refine enter (fun _ => False) 21 [] Tryz.func44 rfl rfl rfl (vs := [.agg (tiC t).toArray, .agg (tiC t).toArray]) (Has.nil _) ?_
  conv => arg 2; arg 2; whnf
  by_cases h0 : t.ty = 0
  · repeat' (first | refine cseq ?_ | refine rtext ?_ | refine ctrue rfl ?_ | refine cret ?_ | refine tret ?_ | refine jnil ?_ | (first | refine jmv rfl rfl rfl ?_ | (show Jo _ (.fieldAddr _ _ _); refine jy (yfield rfl (by first | exact fb42_0 | exact fb42_3) rfl) rfl rfl ?_) | (show Jo _ (.load _ _); first | refine jy (yload (i := 0) rfl rfl rfl one3) rfl rfl ?_ | refine jy (yload (i := 1) rfl rfl rfl one3) rfl rfl ?_) | refine jas_ rfl rfl rfl ?_ | (show Jo _ (.binOp _ _ _ _ _); first | (show Jo _ (.binOp .eql 4 _ _ _); refine jy (ybeq (c := true) rfl rfl und4' (by simp)) rfl rfl ?_) | refine jy (yeql rfl rfl (by (exact decide_eq_true (by omega)))) rfl rfl ?_) | (show Jo _ (.pick _ _ _); refine jy (ypick1 rfl rfl) rfl rfl ?_) | (show Jo (some 2) (.box _ _); refine jbox rfl rfl rfl (fun g2 h2 => ?_)) | (show Jo (some 3) (.box _ _); refine jbox rfl rfl rfl (fun g3 h3 => ?_))))
    exact ret1 rfl rfl rfl (fun w' hw' => ⟨rfl, hw'.2.below (fun k _ h => h) (Nat.le_refl _)⟩)
  · repeat' (first | refine cseq ?_ | refine rtext ?_ | refine cfalse rfl ?_ | refine cskip ?_ | refine cret ?_ | refine jnil ?_ | (first | refine js rfl rfl ?_ | refine jmv rfl rfl rfl ?_ | (show Jo _ (.fieldAddr _ _ _); refine jy (yfield rfl fb42_0 rfl) rfl rfl ?_) | (show Jo _ (.load _ _); first | refine jy (yload (i := 1) rfl rfl rfl one3) rfl rfl ?_ | refine jy (yloads (i := 0) rfl rfl ag42) rfl rfl ?_ | refine jy (yloads (i := 1) rfl rfl ag42) rfl rfl ?_) | refine jas_ rfl rfl rfl ?_ | (show Jo _ (.binOp _ _ _ _ _); first | (show Jo _ (.binOp .eql 59 _ _ _); refine jy (yeqA (xs := [_, _, _, _, _]) (ys := [_, _, _, _, _]) rfl rfl eg42 (es42 _ _ _ _ _)) rfl rfl ?_) | refine jy (yeql rfl rfl (by (exact decide_eq_false (by omega)))) rfl rfl ?_) | (show Jo _ (.pick _ _ _); refine jy (ypick0 rfl rfl) rfl rfl ?_) | (show Jo (some 2) (.box _ _); refine jbox rfl rfl rfl (fun g2 h2 => ?_)) | (show Jo (some 3) (.box _ _); refine jbox rfl rfl rfl (fun g3 h3 => ?_))))
    exact ret1 rfl rfl rfl (fun w' hw' => ⟨rfl, hw'.2.below (fun k _ h => h) (Nat.le_refl _)⟩)
theorem bo30 : bodyB Tryz.prog 41 = true := by kernel_rfl
theorem und24 : Tryz.prog.underlying 26 = some (.slice 59) := by kernel_rfl
theorem sz42 : szB Tryz.prog 59 5 = true := by kernel_rfl
def TisAt (w : World) (v : Value) (l : List Ti) : Prop := ∃ A c, v = .slice A l.length c ∧ ∀ (j : Nat) t, l[j]? = some t → ∃ ad, A = some ad ∧ ∀ (i : Nat) u, (tiC t)[i]? = some u → w.cell? ((ad.add (5 * j)).add i) = some u
theorem sameItems_calls {w : World} {v1 v2 : Value} {l : List Ti} (h1 : TisAt w v1 l) (h2 : TisAt w v2 l) (hl : l.length ≤ 1000000000000) : Calls Tryz.prog 41 #[v1, v2] w fun e w' => e = .returned (.bool true) ∧ Below w.heap.size w w' := by
  obtain ⟨A1, c1, rfl, k1⟩ := h1
  obtain ⟨A2, c2, rfl, k2⟩ := h2
  refine enter (fun _ => False) 27 [] Tryz.func41 rfl rfl rfl (vs := [.slice A1 l.length c1, .slice A2 l.length c2]) (Has.nil _) ?_
  conv => arg 2; arg 2; whnf
  repeat' ((fail_if_success (show PJ _ (Code.wp _ (Code.loop _) _) _ _)); first | first | refine cseq ?_ | refine rtext ?_ | refine cfalse rfl ?_ | refine cskip ?_ | refine cblk ?_ | refine jnil ?_ | (first | refine jmv rfl rfl rfl ?_ | refine jas_ rfl rfl rfl ?_ | (show Jo _ (.binOp _ _ _ _ _); ((show Jo _ (.binOp .neq _ _ _ _); refine jy (yneq rfl rfl (by (exact decide_eq_false (by omega)))) rfl rfl ?_))) | (show Jo _ (.call _); ((show Jo _ (.call ⟨.builtin .len, _, _⟩); refine jy (ylenl rfl und24) rfl rfl ?_)))))
  refine fin (f' := [(0, .slice A1 l.length c1), (1, .slice A2 l.length c2), (12, .int .i64 l.length), (13, .int .i64 (0 : Nat))]) (m' := [])
    (cloop (ι := Nat) (fun j => [(0, .slice A1 l.length c1), (1, .slice A2 l.length c2), (12, .int .i64 l.length), (13, .int .i64 (j : Nat))]) (fun _ => []) (fun n j => n = l.length - j ∧ j ≤ l.length) l.length 0 ⟨rfl, Nat.zero_le _⟩ ?_) ⟨rfl, rfl, rfl, rfl, trivial⟩ rfl
  rintro n j ⟨rfl, hj⟩ K hK
  by_cases hlt : j < l.length
  · obtain ⟨t, ht⟩ : ∃ t, l[j]? = some t := ⟨_, List.getElem?_eq_getElem hlt⟩
    obtain ⟨ad1, rfl, hc1⟩ := k1 j t ht
    obtain ⟨ad2, rfl, hc2⟩ := k2 j t ht
    have hk := hK (l.length - (j + 1)) (j + 1) (by omega) ⟨rfl, by omega⟩
    repeat' (first | (show PJ _ (Code.wp _ _ _) _ _; first | refine cseq ?_ | refine rtext ?_ | refine ctrue rfl ?_ | refine cfalse rfl ?_ | refine cskip ?_ | refine cblk ?_ | refine rquiet mixed (by kernel_rfl) ?_) | refine tnorm ?_ | refine jnil ?_ | (first | refine jmv rfl rfl rfl ?_ | (show Jo _ (.load _ _); first | refine jy (yloadsw (c := tiC t) rfl hc1 (fun h => h) ag42) rfl rfl ?_ | refine jy (yloadsw (c := tiC t) rfl hc2 (fun h => h) ag42) rfl rfl ?_) | refine jas_ rfl rfl rfl ?_ | (show Jo _ (.binOp _ _ _ _ _); first | (show Jo _ (.binOp .add _ _ _ _); refine jy (yadd (c := ((j + 1 : Nat) : Int)) rfl rfl (by rw [i64_in (by omega) (by omega)]; omega)) rfl rfl ?_) | refine jy (ylss rfl rfl (by (exact decide_eq_true (by omega)))) rfl rfl ?_) | refine jy (ynot rfl rfl) rfl rfl ?_ | (show Jo _ (.call _); ((show Jo _ (.call ⟨.value (.func 44), _, _⟩); refine jcallq bo51 rfl rfl rfl (quietC fun w' hw' => same_calls t) ?_))) | (show Jo (some 18) (.indexAddr _ _ _); refine jy (yat (p' := ad1.add (5 * j)) rfl rfl und24 sz42 (by omega) (by omega) (by congr 1; omega)) rfl rfl ?_) | (show Jo (some 22) (.indexAddr _ _ _); refine jy (yat (p' := ad2.add (5 * j)) rfl rfl und24 sz42 (by omega) (by omega) (by congr 1; omega)) rfl rfl ?_)))
    exact fin hk ⟨rfl, rfl, rfl, rfl, trivial⟩ rfl
  · obtain rfl : j = l.length := by omega
    repeat' (first | refine cseq ?_ | refine rtext ?_ | refine cfalse rfl ?_ | refine cret ?_ | refine cexit ?_ | refine jnil ?_ | (first | refine jas_ rfl rfl rfl ?_ | (show Jo _ (.binOp _ _ _ _ _); refine jy (ylss rfl rfl (by (exact decide_eq_false (by omega)))) rfl rfl ?_)))
    exact ret1 rfl rfl rfl (fun w' hw' => ⟨rfl, hw'.2.below (fun k _ h => h) (Nat.le_refl _)⟩)
end Go.Proofs.YtkehggbmpdacpabGreatDoor.Pg
namespace Go.Proofs.YtkehggbmpdacpabGreatDoor.Lw
open Go.Rx
open Go.RowKit Go.Proofs.YtkehggbmpdacpabGreatDoor.Dec0 Go.Proofs.YtkehggbmpdacpabGreatDoor.Txt0
theorem und9 : Tryz.prog.underlying 9 = some .string := by kernel_rfl
theorem boHas : bodyB Tryz.prog 38 = true := by kernel_rfl
set_option maxHeartbeats 1000000 in
theorem has_calls (s x : ByteArray) (w : World) (hs : s.size ≤ 4611686018427387904) (hx : x.size ≤ 4294967296) : Calls Tryz.prog 38 #[.string s, .string x] w fun e w' => e = .returned (.bool (hasT x.data.toList s.data.toList)) ∧ Below w.heap.size w w' := by
  refine enter (fun _ => False) 24 [] Tryz.func38 rfl rfl rfl (vs := [.string s, .string x]) (Has.nil _) ?_
  conv => arg 2; arg 2; whnf
  have post : ∀ (f : Fr) (m : Mem) (b : Bool), hasT x.data.toList s.data.toList = b → Rx.look f 4 = some (.bool b) → PJ ⟨24, [], fun _ => False, w⟩ (bodyPost Tryz.prog Tryz.f38 (fun e w' => e = .returned (.bool (hasT x.data.toList s.data.toList)) ∧ Below w.heap.size w w') .ret) f m := fun f m b hb hf => by
    subst hb
    exact ret1 rfl rfl hf (fun w' hw' => ⟨rfl, hw'.2.below (fun k _ h => h) (Nat.le_refl _)⟩)
  repeat' (first | refine cseq ?_ | refine rtext ?_ | refine cblk ?_ | refine jnil ?_ | ((refine jas_ rfl rfl rfl ?_)))
  refine fin (f' := [(0, .string s), (1, .string x), (5, .int .i64 (0 : Nat))]) (m' := [])
    (cloop (ι := Nat) (fun j => [(0, .string s), (1, .string x), (5, .int .i64 (j : Nat))]) (fun _ => []) (fun k j => k = s.size + 1 - j ∧ j ≤ s.size + 1 ∧ hasT x.data.toList s.data.toList = hasT x.data.toList (s.data.toList.drop j) ∧ (x.size = 0 → j = 0)) (s.size + 1) 0 ⟨rfl, by omega, rfl, fun _ => rfl⟩ ?_) ⟨rfl, rfl, rfl, trivial⟩ rfl
  rintro k j ⟨rfl, hj, heq, h0⟩ K hK
  by_cases hlt : j + x.size ≤ s.size
  case neg =>
    repeat' (first | refine cseq ?_ | refine rtext ?_ | refine cfalse rfl ?_ | refine cret ?_ | refine cexit ?_ | refine jnil ?_ | (first | refine jmv rfl rfl rfl ?_ | refine jas_ rfl rfl rfl ?_ | (show Jo _ (.binOp _ _ _ _ _); first | (show Jo _ (.binOp .add _ _ _ _); refine jy (yadd (c := ((j + x.size : Nat) : Int)) rfl rfl (by rw [i64_in (by omega) (by omega)]; omega)) rfl rfl ?_) | refine jy (yleq rfl rfl (by (exact decide_eq_false (by omega)))) rfl rfl ?_) | (show Jo _ (.call _); ((show Jo _ (.call ⟨.builtin .len, _, _⟩); refine jy (ylens rfl und9) rfl rfl ?_)))))
    refine post _ _ false ?_ rfl
    rw [heq, hasT_short _ _ (by rw [List.length_drop, size_list, size_list]; omega)]
  cases hpe : x.data.toList.isPrefixOf (s.data.toList.drop j)
  all_goals
    replace hpe := (piece_eq s x ((j : Nat) : Int).toNat ((j + x.size : Nat) : Int).toNat (by omega)).trans hpe
    repeat' (first | refine cseq ?_ | refine rtext ?_ | refine ctrue rfl ?_ | refine cfalse rfl ?_ | refine cskip ?_ | refine cblk ?_ | refine cret ?_ | refine tnorm ?_ | refine tret ?_ | refine bret ?_ | refine jnil ?_ | (first | refine jmv rfl rfl rfl ?_ | refine jas_ rfl rfl rfl ?_ | (show Jo _ (.binOp _ _ _ _ _); first | (show Jo (some 14) (.binOp .add _ _ _ _); refine jy (yadd (c := ((j + 1 : Nat) : Int)) rfl rfl (by rw [i64_in (by omega) (by omega)]; omega)) rfl rfl ?_) | (show Jo _ (.binOp .add _ _ _ _); refine jy (yadd (c := ((j + x.size : Nat) : Int)) rfl rfl (by rw [i64_in (by omega) (by omega)]; omega)) rfl rfl ?_) | refine jy (yleq rfl rfl (by (exact decide_eq_true (by omega)))) rfl rfl ?_ | (show Jo _ (.binOp .eql 9 _ _ _); refine jy (yseql rfl rfl hpe) rfl rfl ?_)) | (show Jo _ (.slice _ _ _ _ _); refine jy (yslice rfl rfl rfl und9 (by omega) (by omega) (by omega) rfl) rfl rfl ?_) | (show Jo _ (.call _); ((show Jo _ (.call ⟨.builtin .len, _, _⟩); refine jy (ylens rfl und9) rfl rfl ?_)))))
  · have hp := (piece_eq s x ((j : Nat) : Int).toNat ((j + x.size : Nat) : Int).toNat (by omega)).symm.trans hpe
    rw [Int.toNat_natCast] at hp
    have hx0 : x.data.toList ≠ [] := by
      intro e
      rw [e] at hp
      simp at hp
    have hxs : x.size ≠ 0 := by
      intro e
      apply hx0
      rw [← List.length_eq_zero_iff, size_list]
      exact e
    refine fin (hK (s.size + 1 - (j + 1)) (j + 1) (by omega) ⟨rfl, by omega, ?_, fun e => absurd e hxs⟩) ⟨rfl, rfl, rfl, trivial⟩ rfl
    rw [heq, hasT_drop _ _ hx0, hp, Bool.false_or, List.drop_drop]
  · have hp := (piece_eq s x ((j : Nat) : Int).toNat ((j + x.size : Nat) : Int).toNat (by omega)).symm.trans hpe
    rw [Int.toNat_natCast] at hp
    refine post _ _ true ?_ rfl
    rw [heq]
    cases hd : s.data.toList.drop j with
    | nil =>
      rw [hd] at hp
      cases hx : x.data.toList with
      | nil => rfl
      | cons a b => rw [hx] at hp; simp at hp
    | cons c r => rw [hd] at hp; rw [hasT, hp]; rfl
theorem has_in {X : Cx} {m : Mem} {s x : ByteArray} (hs : s.size ≤ 4611686018427387904) (hx : x.size ≤ 4294967296) : ∀ w, Cl X m w → Calls Tryz.prog 38 #[.string s, .string x] w fun e w' => e = .returned (.bool (hasT x.data.toList s.data.toList)) ∧ Cl X m w' :=
  quietC fun w _ => has_calls s x w hs hx
def strs (l : List ByteArray) : List Value := l.map .string
def fits3 (l : List ByteArray) : Bool := decide (l.length ≤ 2147483647) && l.all fun x => decide (x.size ≤ 2147483647)
theorem fits3_len {l : List ByteArray} (h : fits3 l = true) : l.length ≤ 2147483647 := by
  unfold fits3 at h
  simp only [Bool.and_eq_true, decide_eq_true_eq] at h
  exact h.1
theorem fits3_all {l : List ByteArray} (h : fits3 l = true) : ∀ x ∈ l, x.size ≤ 2147483647 := by
  unfold fits3 at h
  simp only [Bool.and_eq_true, decide_eq_true_eq, List.all_eq_true] at h
  exact h.2
theorem und24 : Tryz.prog.underlying 22 = some (.slice 9) := by kernel_rfl
theorem sz9 : szB Tryz.prog 9 1 = true := by kernel_rfl
theorem one9 : oneB Tryz.prog 9 = true := by kernel_rfl
theorem boFit : bodyB Tryz.prog 14 = true := by kernel_rfl
set_option maxHeartbeats 1000000 in
theorem fits3_calls (l : List ByteArray) (v : Value) (w : World) (ha : RowAt nof w v l.length (strs l)) (hl : l.length ≤ 9223372036854775806) :
    Calls Tryz.prog 14 #[v] w fun e w' => e = .returned (.bool (fits3 l)) ∧ Below w.heap.size w w' := by
  obtain ⟨A, c, rfl, ha⟩ := ha
  refine enter (fun _ => False) 18 [] Tryz.func14 rfl rfl rfl (vs := [.slice A l.length c]) (Has.nil _) ?_
  conv => arg 2; arg 2; whnf
  have post : ∀ (f : Fr) (m : Mem), Rx.look f 2 = some (.bool (fits3 l)) → PJ ⟨18, [], fun _ => False, w⟩ (bodyPost Tryz.prog Tryz.f14 (fun e w' => e = .returned (.bool (fits3 l)) ∧ Below w.heap.size w w') .ret) f m := fun f m hf =>
    ret1 rfl rfl hf (fun w' hw' => ⟨rfl, hw'.2.below (fun k _ h => h) (Nat.le_refl _)⟩)
  have no : ¬ fits3 l = true → fits3 l = false := fun h => by simpa using h
  repeat' (first | refine cseq ?_ | refine rtext ?_ | refine ctrue rfl ?_ | refine cfalse rfl ?_ | refine cskip ?_ | refine cblk ?_ | refine cret ?_ | refine tret ?_ | refine jnil ?_ | (first | refine jmv rfl rfl rfl ?_ | refine jas_ rfl rfl rfl ?_ | (show Jo _ (.binOp _ _ _ _ _); refine jgtr rfl rfl rfl rfl (fun hq => ?_) (fun hq => ?_)) | (show Jo _ (.call _); ((show Jo _ (.call ⟨.builtin .len, _, _⟩); refine jy (ylenl rfl und24) rfl rfl ?_)))))
  · exact post _ _ (by rw [no (fun h => by have := fits3_len h; omega)]; rfl)
  refine fin (f' := [(8, .slice A l.length c), (9, .int .i64 l.length), (10, .int .i64 (0 : Nat))]) (m' := [])
    (cloop (ι := Nat) (fun j => [(8, .slice A l.length c), (9, .int .i64 l.length), (10, .int .i64 (j : Nat))]) (fun _ => []) (fun k j => j ≤ l.length ∧ k = l.length - j ∧ ∀ i x, i < j → l[i]? = some x → x.size ≤ 2147483647) l.length 0 ⟨Nat.zero_le _, rfl, fun i x h => absurd h (Nat.not_lt_zero _)⟩ ?_) ⟨rfl, rfl, rfl, trivial⟩ rfl
  rintro k j ⟨hj, rfl, hall⟩ K hK
  by_cases hlt : j < l.length
  · obtain ⟨x, hx⟩ : ∃ x, l[j]? = some x := ⟨_, List.getElem?_eq_getElem hlt⟩
    obtain ⟨ad, rfl, _, hc⟩ := ha j (.string x) (by simp [strs, hx])
    repeat' (first | (show Jo _ (.indexAddr _ _ _); refine jy (yat (p' := ad.add j) rfl rfl und24 sz9 (by omega) (by omega) (by simp)) rfl rfl ?_) | (show Jo _ (.load 9 _); refine jy (yloadw rfl hc (fun h => h) one9) rfl rfl ?_) | first | refine cseq ?_ | refine rtext ?_ | refine ctrue rfl ?_ | refine cfalse rfl ?_ | refine cskip ?_ | refine cblk ?_ | refine cret ?_ | refine tnorm ?_ | refine tret ?_ | refine bret ?_ | refine jnil ?_ | (first | refine jmv rfl rfl rfl ?_ | refine jas_ rfl rfl rfl ?_ | (show Jo _ (.binOp _ _ _ _ _); first | refine jy (yadd (c := ((j + 1 : Nat) : Int)) rfl rfl (by rw [i64_in (by omega) (by omega)]; omega)) rfl rfl ?_ | refine jgtr rfl rfl rfl rfl (fun hq => ?_) (fun hq => ?_) | refine jy (ylss rfl rfl (by (exact decide_eq_true (by omega)))) rfl rfl ?_) | (show Jo _ (.call _); ((show Jo _ (.call ⟨.builtin .len, _, #[9]⟩); refine jy (ylens rfl und9) rfl rfl ?_)))))
    · exact post _ _ (by rw [no (fun h => by have := fits3_all h x (List.mem_of_getElem? hx); omega)]; rfl)
    · exact fin (hK (l.length - (j + 1)) (j + 1) (by omega) ⟨by omega, rfl, fun i y hi hy => by
        rcases Nat.lt_succ_iff_lt_or_eq.1 hi with h | h
        · exact hall i y h hy
        · subst h; rw [hx] at hy; cases hy; omega⟩) ⟨rfl, rfl, rfl, trivial⟩ rfl
  · obtain rfl : j = l.length := by omega
    repeat' (first | refine cseq ?_ | refine rtext ?_ | refine cfalse rfl ?_ | refine cret ?_ | refine cexit ?_ | refine jnil ?_ | (first | refine jas_ rfl rfl rfl ?_ | (show Jo _ (.binOp _ _ _ _ _); refine jy (ylss rfl rfl (by (exact decide_eq_false (by omega)))) rfl rfl ?_)))
    refine post _ _ ?_
    have : fits3 l = true := by
      unfold fits3
      simp only [Bool.and_eq_true, decide_eq_true_eq, List.all_eq_true]
      exact ⟨by omega, fun x hx => by obtain ⟨i, hi⟩ := List.getElem?_of_mem hx; exact hall i x (List.getElem?_eq_some_iff.1 hi).1 hi⟩
    rw [this]; rfl
theorem fits3_in {X : Cx} {m : Mem} {l : List ByteArray} {v : Value} (ha : RowAt nof X.w0 v l.length (strs l)) (hS : ∀ k, X.S k → False) (hl : l.length ≤ 9223372036854775806) : ∀ w, Cl X m w → Calls Tryz.prog 14 #[v] w fun e w' => e = .returned (.bool (fits3 l)) ∧ Cl X m w' :=
  quietC fun w hw => fits3_calls l v w (ha.of_evo hw.2 hS) hl
theorem drop_bt {s : ByteArray} {j : Nat} (h : j < s.size) : ∃ c : UInt8, s.data.toList.drop j = c :: s.data.toList.drop (j + 1) ∧ Rx.bt s (j : Nat) = (c.toNat : Int) := by
  have hl : j < s.data.toList.length := by rw [size_list]; exact h
  refine ⟨s.data.toList[j], List.drop_eq_getElem_cons hl, ?_⟩
  unfold Rx.bt
  rw [dif_pos (by simpa using h)]
  simp only [Int.toNat_natCast, Array.getElem_toList]
  rfl
theorem boAsc : bodyB Tryz.prog 39 = true := by kernel_rfl
set_option maxHeartbeats 1000000 in
theorem ascii_calls (s : ByteArray) (w : World) (hs : s.size ≤ 4611686018427387904) : Calls Tryz.prog 39 #[.string s] w fun e w' => e = .returned (.bool (s.data.toList.all isAsc)) ∧ Below w.heap.size w w' := by
  refine enter (fun _ => False) 32 [] Tryz.func39 rfl rfl rfl (vs := [.string s]) (Has.nil _) ?_
  conv => arg 2; arg 2; whnf
  have post : ∀ (f : Fr) (m : Mem) (b : Bool), s.data.toList.all isAsc = b → Rx.look f 2 = some (.bool b) → PJ ⟨32, [], fun _ => False, w⟩ (bodyPost Tryz.prog Tryz.f39 (fun e w' => e = .returned (.bool (s.data.toList.all isAsc)) ∧ Below w.heap.size w w') .ret) f m := fun f m b hb hf => by
    subst hb
    exact ret1 rfl rfl hf (fun w' hw' => ⟨rfl, hw'.2.below (fun k _ h => h) (Nat.le_refl _)⟩)
  repeat' (first | refine cseq ?_ | refine rtext ?_ | refine cblk ?_ | refine jnil ?_ | ((refine jas_ rfl rfl rfl ?_)))
  refine fin (f' := [(0, .string s), (3, .int .i64 (0 : Nat))]) (m' := [])
    (cloop (ι := Nat) (fun j => [(0, .string s), (3, .int .i64 (j : Nat))]) (fun _ => []) (fun k j => k = s.size - j ∧ j ≤ s.size ∧ s.data.toList.all isAsc = (s.data.toList.drop j).all isAsc) s.size 0 ⟨rfl, by omega, rfl⟩ ?_) ⟨rfl, rfl, trivial⟩ rfl
  rintro k j ⟨rfl, hj, heq⟩ K hK
  by_cases hlt : j < s.size
  case neg =>
    obtain rfl : j = s.size := by omega
    rw [List.drop_eq_nil_of_le (by rw [size_list]; exact Nat.le_refl _)] at heq
    repeat' (first | refine cseq ?_ | refine rtext ?_ | refine cfalse rfl ?_ | refine cret ?_ | refine cexit ?_ | refine jnil ?_ | (first | refine jmv rfl rfl rfl ?_ | refine jas_ rfl rfl rfl ?_ | (show Jo _ (.binOp _ _ _ _ _); refine jy (ylss rfl rfl (by (exact decide_eq_false (by omega)))) rfl rfl ?_) | (show Jo _ (.call _); ((show Jo _ (.call ⟨.builtin .len, _, _⟩); refine jy (ylens rfl und9) rfl rfl ?_)))))
    exact post _ _ true heq rfl
  obtain ⟨c, hd, hb⟩ := drop_bt hlt
  rw [hd, List.all_cons] at heq
  have hT : 32 ≤ c.toNat ∧ c.toNat ≤ 126 ∨ c.toNat = 10 ∨ c.toNat = 9 → isAsc c = true := by
    intro h
    unfold isAsc
    rcases h with ⟨h1, h2⟩ | h | h
    · simp [h1, h2]
    · simp [h]
    · simp [h]
  have hF : ¬ (32 ≤ c.toNat ∧ c.toNat ≤ 126 ∨ c.toNat = 10 ∨ c.toNat = 9) → isAsc c = false := by
    intro h
    unfold isAsc
    simp
    omega
  repeat' (first | refine cseq ?_ | refine rtext ?_ | refine ctrue rfl ?_ | refine cfalse rfl ?_ | refine cskip ?_ | refine cblk ?_ | refine cret ?_ | refine tnorm ?_ | refine tret ?_ | refine bret ?_ | refine jnil ?_ | (first | refine js rfl rfl ?_ | refine jmv rfl rfl rfl ?_ | refine jas_ rfl rfl rfl ?_ | (show Jo _ (.binOp _ _ _ _ _); first | refine jy (yadd (c := ((j + 1 : Nat) : Int)) rfl rfl (by rw [i64_in (by omega) (by omega)]; omega)) rfl rfl ?_ | (show Jo _ (.binOp .gtr _ _ _ _); refine jgtr rfl rfl rfl rfl (fun hq => ?_) (fun hq => ?_)) | (show Jo _ (.binOp .neq _ _ _ _); refine jneq rfl rfl rfl rfl (fun hq => ?_) (fun hq => ?_)) | refine jy (ylss rfl rfl (by (exact decide_eq_true (by omega)))) rfl rfl ?_ | refine jlss rfl rfl rfl rfl (fun hq => ?_) (fun hq => ?_)) | (show Jo _ (.pick _ _ _); first | refine jy (ypick1 rfl rfl) rfl rfl ?_ | refine jy (ypick0 rfl rfl) rfl rfl ?_) | (show Jo _ (.index _ _ _); refine jy (yidx (c := bt _ _) rfl rfl und9 (by omega) (by omega) rfl) rfl rfl ?_) | (show Jo _ (.call _); ((show Jo _ (.call ⟨.builtin .len, _, _⟩); refine jy (ylens rfl und9) rfl rfl ?_)))))
  all_goals first
    | exact post _ _ false (by rw [heq, hF (by omega)]; simp) rfl
    | exact fin (hK (s.size - (j + 1)) (j + 1) (by omega) ⟨rfl, by omega, by rw [heq, hT (by omega), Bool.true_and]⟩) ⟨rfl, rfl, trivial⟩ rfl
theorem ascii_in {X : Cx} {m : Mem} {s : ByteArray} (hs : s.size ≤ 4611686018427387904) : ∀ w, Cl X m w → Calls Tryz.prog 39 #[.string s] w fun e w' => e = .returned (.bool (s.data.toList.all isAsc)) ∧ Cl X m w' :=
  quietC fun w _ => ascii_calls s w hs
theorem boNm : bodyB Tryz.prog 15 = true := by kernel_rfl
def NameF (s : ByteArray) : Prop := Lex0.NameT s.data.toList ∧ s.size < 100
theorem isN_of {c : UInt8} (h : 97 ≤ c.toNat ∧ c.toNat ≤ 122 ∨ 48 ≤ c.toNat ∧ c.toNat ≤ 57 ∨ c.toNat = 95 ∨ c.toNat = 45 ∨ c.toNat = 47) : Lex0.isN c = true := by
  unfold Lex0.isN Lex0.isW
  simp only [Bool.or_eq_true, Bool.and_eq_true, decide_eq_true_eq, beq_iff_eq]
  omega
theorem isW_of {c : UInt8} (h : 97 ≤ c.toNat ∧ c.toNat ≤ 122 ∨ 48 ≤ c.toNat ∧ c.toNat ≤ 57 ∨ c.toNat = 95) : Lex0.isW c = true := by
  unfold Lex0.isW
  simp only [Bool.or_eq_true, Bool.and_eq_true, decide_eq_true_eq, beq_iff_eq]
  omega
theorem pos_of_ne {s : ByteArray} (h : ¬ s = ⟨#[]⟩) : 0 < s.size := by
  rcases Nat.eq_zero_or_pos s.size with h0 | h0
  · refine absurd ?_ h
    rw [data_inj]
    exact List.length_eq_zero_iff.1 (by rw [size_list]; exact h0)
  · exact h0
theorem ne_list {s : ByteArray} (h : ¬ s = ⟨#[]⟩) : s.data.toList ≠ [] := fun e => h (by rw [data_inj]; exact e)
set_option maxHeartbeats 1000000 in
theorem named_calls (s : ByteArray) (w : World) (hs : s.size ≤ 4611686018427387904) : Calls Tryz.prog 15 #[.string s] w fun e w' => ∃ b, e = .returned (.bool b) ∧ Below w.heap.size w w' ∧ (b = true → NameF s) := by
  refine enter (fun _ => False) 64 [] Tryz.func15 rfl rfl rfl (vs := [.string s]) (Has.nil _) ?_
  conv => arg 2; arg 2; whnf
  have post : ∀ (f : Fr) (m : Mem) (b : Bool), (b = true → NameF s) → Rx.look f 2 = some (.bool b) → PJ ⟨64, [], fun _ => False, w⟩ (bodyPost Tryz.prog Tryz.f15 (fun e w' => ∃ b, e = .returned (.bool b) ∧ Below w.heap.size w w' ∧ (b = true → NameF s)) .ret) f m := fun f m b hb hf =>
    ret1 rfl rfl hf (fun w' hw' => ⟨b, rfl, hw'.2.below (fun k _ h => h) (Nat.le_refl _), hb⟩)
  repeat' (first | refine cseq ?_ | refine rtext ?_ | refine cblk ?_ | refine jnil ?_ | ((refine jas_ rfl rfl rfl ?_)))
  refine fin (f' := [(0, .string s), (3, .int .i64 (0 : Nat))]) (m' := [])
    (cloop (ι := Nat) (fun j => [(0, .string s), (3, .int .i64 (j : Nat))]) (fun _ => []) (fun k j => k = s.size - j ∧ j ≤ s.size ∧ ∀ (i : Nat) c, i < j → s.data.toList[i]? = some c → Lex0.isN c = true ∧ (i = 0 → Lex0.isW c = true)) s.size 0 ⟨rfl, by omega, fun i c h => absurd h (Nat.not_lt_zero _)⟩ ?_) ⟨rfl, rfl, trivial⟩ rfl
  rintro k j ⟨rfl, hj, hI⟩ K hK
  by_cases hlt : j < s.size
  case neg =>
    obtain rfl : j = s.size := by omega
    repeat' (first | refine cseq ?_ | refine rtext ?_ | refine cfalse rfl ?_ | refine cret ?_ | refine cexit ?_ | refine jnil ?_ | (first | refine js rfl rfl ?_ | refine jmv rfl rfl rfl ?_ | refine jas_ rfl rfl rfl ?_ | (show Jo _ (.binOp _ _ _ _ _); first | (show Jo _ (.binOp .neq 5 _ _ _); refine jneq rfl rfl rfl rfl (fun hq => ?_) (fun hq => ?_)) | (show Jo _ (.binOp .neq 9 _ _ _); refine jsneq rfl rfl rfl rfl (fun hne => ?_) (fun hne => ?_)) | (show Jo _ (.binOp .sub _ _ _ _); refine jy (ysub (c := ((s.size - 1 : Nat) : Int)) rfl rfl (by have hz := pos_of_ne hne; rw [i64_in (by omega) (by omega)]; omega)) rfl rfl ?_) | refine jy (ylss rfl rfl (by (exact decide_eq_false (by omega)))) rfl rfl ?_ | refine jlss rfl rfl rfl rfl (fun hq => ?_) (fun hq => ?_)) | (show Jo _ (.pick _ _ _); first | refine jy (ypick1 rfl rfl) rfl rfl ?_ | refine jy (ypick0 rfl rfl) rfl rfl ?_) | (show Jo _ (.call _); ((show Jo _ (.call ⟨.builtin .len, _, _⟩); refine jy (ylens rfl und9) rfl rfl ?_))) | (show Jo _ (.index 9 _ (.const _)); refine jy (yidx (c := Rx.bt s (0 : Nat)) rfl rfl und9 (by omega) (by have hz := pos_of_ne hne; omega) rfl) rfl rfl ?_) | (show Jo _ (.index 9 _ _); (refine jy (yidx (c := Rx.bt _ _) rfl rfl und9 (by omega) (by have hz := pos_of_ne hne; omega) rfl) rfl rfl ?_))))
    all_goals first
      | exact post _ _ false (fun h => by cases h) rfl
      | (refine post _ _ true (fun _ => ⟨⟨ne_list hne, fun c hc => ?_, fun c hc => ?_⟩, by omega⟩) rfl
         · exact (hI 0 c (pos_of_ne hne) (by rw [← List.head?_eq_getElem?]; exact hc)).2 rfl
         · obtain ⟨i, hi, he⟩ := List.mem_iff_getElem.1 hc
           exact (hI i c (by rw [← size_list]; exact hi) (by rw [List.getElem?_eq_getElem hi, he])).1)
  obtain ⟨c, hd, hb⟩ := drop_bt hlt
  have hcj : s.data.toList[j]? = some c := by
    have := congrArg List.head? hd
    rwa [List.head?_drop] at this
  have hN : (97 ≤ c.toNat ∧ c.toNat ≤ 122 ∨ 48 ≤ c.toNat ∧ c.toNat ≤ 57 ∨ c.toNat = 95 ∨ (j ≠ 0 ∧ (c.toNat = 45 ∨ c.toNat = 47))) → ∀ (i : Nat) d, i < j + 1 → s.data.toList[i]? = some d → Lex0.isN d = true ∧ (i = 0 → Lex0.isW d = true) := by
    intro h i d hi hd'
    by_cases hij : i = j
    · subst hij
      rw [hcj] at hd'
      cases hd'
      exact ⟨isN_of (by omega), fun h0 => isW_of (by omega)⟩
    · exact hI i d (by omega) hd'
  repeat' (first | refine cseq ?_ | refine rtext ?_ | refine ctrue rfl ?_ | refine cfalse rfl ?_ | refine cskip ?_ | refine cblk ?_ | refine cret ?_ | refine tnorm ?_ | refine tret ?_ | refine bret ?_ | refine jnil ?_ | (first | refine js rfl rfl ?_ | refine jmv rfl rfl rfl ?_ | refine jas_ rfl rfl rfl ?_ | (show Jo _ (.binOp _ _ _ _ _); first | (show Jo _ (.binOp .add _ _ _ _); refine jy (yadd (c := ((j + 1 : Nat) : Int)) rfl rfl (by rw [i64_in (by omega) (by omega)]; omega)) rfl rfl ?_) | (show Jo _ (.binOp .gtr _ _ _ _); first | refine jy (ygtr rfl rfl (by (exact decide_eq_true (by omega)))) rfl rfl ?_ | refine jgtr rfl rfl rfl rfl (fun hq => ?_) (fun hq => ?_)) | (show Jo _ (.binOp .neq 5 _ _ _); first | refine jy (yneq rfl rfl (by (exact decide_eq_true (by omega)))) rfl rfl ?_ | refine jneq rfl rfl rfl rfl (fun hq => ?_) (fun hq => ?_)) | refine jy (ylss rfl rfl (by first | exact decide_eq_true (by omega) | exact decide_eq_false (by omega))) rfl rfl ?_ | refine jlss rfl rfl rfl rfl (fun hq => ?_) (fun hq => ?_) | refine jeql rfl rfl rfl rfl (fun hq => ?_) (fun hq => ?_)) | (show Jo _ (.pick _ _ _); first | refine jy (ypick1 rfl rfl) rfl rfl ?_ | refine jy (ypick0 rfl rfl) rfl rfl ?_) | (show Jo _ (.index _ _ _); refine jy (yidx (c := bt _ _) rfl rfl und9 (by omega) (by omega) rfl) rfl rfl ?_) | (show Jo _ (.call _); ((show Jo _ (.call ⟨.builtin .len, _, _⟩); refine jy (ylens rfl und9) rfl rfl ?_)))))
  all_goals first
    | exact post _ _ false (fun h => by cases h) rfl
    | exact fin (hK (s.size - (j + 1)) (j + 1) (by omega) ⟨rfl, by omega, hN (by omega)⟩) ⟨rfl, rfl, trivial⟩ rfl
theorem named_in {X : Cx} {m : Mem} {s : ByteArray} (hs : s.size ≤ 4611686018427387904) : ∀ w, Cl X m w → Calls Tryz.prog 15 #[.string s] w fun e w' => ∃ b, e = .returned (.bool b) ∧ Cl X m w' ∧ (b = true → NameF s) := fun w hw =>
  (named_calls s w hs).mono fun e w' ⟨b, h1, h2, h3⟩ => ⟨b, h1, hw.below h2, h3⟩
theorem boPw : bodyB Tryz.prog 51 = true := by kernel_rfl
theorem boPh : bodyB Tryz.prog 52 = true := by kernel_rfl
theorem boPs : bodyB Tryz.prog 50 = true := by kernel_rfl
theorem boSp : bodyB Tryz.prog 46 = true := by kernel_rfl
theorem grS : growB Tryz.prog 22 9 1 16 = true := by kernel_rfl
theorem isSp_eq {c : Nat} {b : Bool} (h : b = true ↔ (c = 32 ∨ 9 ≤ c ∧ c ≤ 13)) : b = Lex0.isSp c := by
  rw [Bool.eq_iff_iff, h]
  unfold Lex0.isSp
  simp only [Bool.or_eq_true, beq_iff_eq]
  omega
theorem pageWhite_calls (c : Nat) (w : World) : Calls Tryz.prog 51 #[.int .u8 (c : Nat)] w fun e w' => e = .returned (.bool (Lex0.isSp c)) ∧ Below w.heap.size w w' := by
  refine enter (fun _ => False) 13 [] Tryz.func51 rfl rfl rfl (vs := [.int .u8 (c : Nat)]) (Has.nil _) ?_
  conv => arg 2; arg 2; whnf
  have post : ∀ (f : Fr) (m : Mem) (b : Bool), (b = true ↔ (c = 32 ∨ 9 ≤ c ∧ c ≤ 13)) → Rx.look f 2 = some (.bool b) → PJ ⟨13, [], fun _ => False, w⟩ (bodyPost Tryz.prog Tryz.f51 (fun e w' => e = .returned (.bool (Lex0.isSp c)) ∧ Below w.heap.size w w') .ret) f m := fun f m b hb hf =>
    ret1 rfl rfl hf (fun w' hw' => ⟨by rw [isSp_eq hb], hw'.2.below (fun k _ h => h) (Nat.le_refl _)⟩)
  repeat' (first | refine cseq ?_ | refine rtext ?_ | refine cret ?_ | refine jnil ?_ | (first | refine js rfl rfl ?_ | refine jmv rfl rfl rfl ?_ | refine jas_ rfl rfl rfl ?_ | (show Jo _ (.binOp _ _ _ _ _); first | (show Jo _ (.binOp .leq _ _ _ _); refine jleq rfl rfl rfl rfl (fun hq => ?_) (fun hq => ?_)) | refine jeql rfl rfl rfl rfl (fun hq => ?_) (fun hq => ?_) | refine jgeq rfl rfl rfl rfl (fun hq => ?_) (fun hq => ?_)) | (show Jo _ (.pick _ _ _); first | refine jy (ypick1 rfl rfl) rfl rfl ?_ | refine jy (ypick0 rfl rfl) rfl rfl ?_)))
  all_goals first
    | exact post _ _ true (by simp only [true_iff]; omega) rfl
    | exact post _ _ false (by simp only [Bool.false_eq_true, false_iff]; omega) rfl
theorem pageHas_calls (s x : ByteArray) (i : Nat) (w : World) (hs : s.size ≤ 4611686018427387904) (hi : i < s.size) (hx : x.size ≤ 4) (hne : i + x.size ≤ s.size → ¬ s.extract ((i : Nat) : Int).toNat ((i + x.size : Nat) : Int).toNat = x) :
    Calls Tryz.prog 52 #[.string s, .int .i64 (i : Nat), .string x] w fun e w' => e = .returned (.bool false) ∧ Below w.heap.size w w' := by
  refine enter (fun _ => False) 29 [] Tryz.func52 rfl rfl rfl (vs := [.string s, .int .i64 (i : Nat), .string x]) (Has.nil _) ?_
  conv => arg 2; arg 2; whnf
  repeat' (first | refine cseq ?_ | refine rtext ?_ | refine cret ?_ | refine jnil ?_ | (first | refine js rfl rfl ?_ | refine jmv rfl rfl rfl ?_ | refine jas_ rfl rfl rfl ?_ | (show Jo _ (.binOp _ _ _ _ _); first | (show Jo _ (.binOp .add _ _ _ _); refine jy (yadd (c := ((i + x.size : Nat) : Int)) rfl rfl (by rw [i64_in (by omega) (by omega)]; omega)) rfl rfl ?_) | (show Jo _ (.binOp .leq _ _ _ _); refine jleq rfl rfl rfl rfl (fun hq => ?_) (fun hq => ?_)) | (show Jo _ (.binOp .eql 9 _ _ _); refine jy (yseql (c := false) rfl rfl (decide_eq_false (hne (by omega)))) rfl rfl ?_) | refine jy (ygeq rfl rfl (by (exact decide_eq_true (by omega)))) rfl rfl ?_) | (show Jo _ (.pick _ _ _); first | refine jy (ypick1 rfl rfl) rfl rfl ?_ | refine jy (ypick0 rfl rfl) rfl rfl ?_) | (show Jo _ (.slice _ _ _ _ _); refine jy (yslice rfl rfl rfl und9 (by omega) (by omega) (by omega) rfl) rfl rfl ?_) | (show Jo _ (.call _); ((show Jo _ (.call ⟨.builtin .len, _, #[9]⟩); refine jy (ylens rfl und9) rfl rfl ?_)))))
  all_goals exact ret1 rfl rfl rfl (fun w' hw' => ⟨rfl, hw'.2.below (fun k _ h => h) (Nat.le_refl _)⟩)
def wideT : List (List UInt8) := [[194, 133], [194, 160], [225, 154, 128], [226, 128, 128], [226, 128, 129], [226, 128, 130], [226, 128, 131], [226, 128, 132], [226, 128, 133], [226, 128, 134], [226, 128, 135], [226, 128, 136], [226, 128, 137], [226, 128, 138], [226, 128, 168], [226, 128, 169], [226, 128, 175], [226, 129, 159], [227, 128, 128]]
def wides : List ByteArray := wideT.map Lex0.ba
theorem pageSpaces_in {X : Cx} {m : Mem} : ∀ w, Cl X m w → Calls Tryz.prog 50 #[] w fun e w' => ∃ g, e = .returned (.slice (some ⟨g, 0, none⟩) 19 19) ∧ Cl X ((g, strs wides, .c 9) :: m) w' ∧ True := by
  intro w hw
  refine enterC 2 hw Tryz.func50 rfl rfl (vs := []) rfl ?_
  conv => arg 2; arg 2; whnf
  repeat' (first | refine cseq ?_ | refine rtext ?_ | refine cret ?_ | refine jnil ?_ | (first | refine jas_ rfl rfl rfl ?_ | (show Jo _ (.buildSlice _ _ _); refine jlitN (vs := strs wides) (n := 19) (c := strs wides) rfl rfl rfl rfl grS rfl rfl rfl rfl (fun g hg => ?_))))
  exact ret1 rfl rfl rfl (fun w' hw' => ⟨g, rfl, hw.up hw', trivial⟩)
theorem add_at (g j : Nat) : (⟨g, 0, none⟩ : Addr).add (((j : Nat) : Int).toNat * 1) = ⟨g, j, none⟩ := by
  unfold Addr.add
  rw [Int.toNat_natCast, Nat.mul_one]
  by_cases h : j = 0
  · rw [if_pos h, h]
  · rw [if_neg h]
    dsimp only
    rw [Nat.zero_add]
theorem wide_at : ∀ t ∈ wideT, t.length ≤ 4 ∧ ∃ c, t.head? = some c ∧ 128 ≤ c.toNat := by
  intro t ht
  have h : wideT.all (fun t => decide (t.length ≤ 4) && (match t.head? with | none => false | some c => decide (128 ≤ c.toNat))) = true := by decide
  have := List.all_eq_true.1 h t ht
  simp only [Bool.and_eq_true, decide_eq_true_eq] at this
  refine ⟨this.1, ?_⟩
  cases t with
  | nil => exact absurd this.2 (by simp)
  | cons c t => exact ⟨c, rfl, by simpa using this.2⟩
theorem wide_ok {s x : ByteArray} {j i : Nat} (hx : wides[j]? = some x) (ha : ∀ c ∈ s.data.toList, c.toNat < 128) : x.size ≤ 4 ∧ (i + x.size ≤ s.size → ¬ s.extract ((i : Nat) : Int).toNat ((i + x.size : Nat) : Int).toNat = x) := by
  obtain ⟨t, ht, rfl⟩ := List.mem_map.1 (List.mem_of_getElem? hx)
  have h1 : t.length ≤ 4 ∧ ∃ c, t.head? = some c ∧ 128 ≤ c.toNat := wide_at t ht
  obtain ⟨h1, c, h2, h3⟩ := h1
  have hsz : (Lex0.ba t).size = t.length := rfl
  refine ⟨by rw [hsz]; exact h1, fun hi e => ?_⟩
  have hc : c ∈ (Lex0.ba t).data.toList := by
    show c ∈ t
    cases t with
    | nil => cases h2
    | cons a t => cases h2; exact List.mem_cons_self ..
  rw [← e, ext_list] at hc
  have := ha c (List.mem_of_mem_drop (List.mem_of_mem_take hc))
  omega
set_option maxHeartbeats 1000000 in
theorem pageSpace_calls (s : ByteArray) (w : World) (hs : s.size ≤ 4611686018427387904) (ha : ∀ c ∈ s.data.toList, c.toNat < 128) : Calls Tryz.prog 46 #[.string s] w fun e w' => e = .returned (.bool (Lex0.isSpT s.data.toList)) ∧ Below w.heap.size w w' := by
  refine enter (fun _ => False) 38 [] Tryz.func46 rfl rfl rfl (vs := [.string s]) (Has.nil _) ?_
  conv => arg 2; arg 2; whnf
  have post : ∀ (f : Fr) (m : Mem) (b : Bool), Lex0.isSpT s.data.toList = b → Rx.look f 2 = some (.bool b) → PJ ⟨38, [], fun _ => False, w⟩ (bodyPost Tryz.prog Tryz.f46 (fun e w' => e = .returned (.bool (Lex0.isSpT s.data.toList)) ∧ Below w.heap.size w w') .ret) f m := fun f m b hb hf => by
    subst hb
    exact ret1 rfl rfl hf (fun w' hw' => ⟨rfl, hw'.2.below (fun k _ h => h) (Nat.le_refl _)⟩)
  repeat' ((fail_if_success (show PJ _ (Code.wp _ (Code.loop _) _) _ _)); first | first | refine cseq ?_ | refine rtext ?_ | refine cblk ?_ | refine jnil ?_ | (first | refine jas_ rfl rfl rfl ?_ | (show Jo _ (.call _); ((show Jo _ (.call ⟨.value (.func 50), _, _⟩); refine jcall (ι := Nat) (v := fun g => .slice (some ⟨g, 0, none⟩) 19 19) (m' := fun g => (g, strs wides, .c 9) :: []) (fun _ => True) boPs rfl rfl rfl pageSpaces_in (fun g _ => ?_))))))
  refine fin (f' := [(0, .string s), (3, .slice (some ⟨g, 0, none⟩) 19 19), (4, .int .i64 (0 : Nat))]) (m' := [(g, strs wides, .c 9)])
    (cloop (ι := Nat) (fun i => [(0, .string s), (3, .slice (some ⟨g, 0, none⟩) 19 19), (4, .int .i64 (i : Nat))]) (fun _ => [(g, strs wides, .c 9)]) (fun k i => k = s.size - i ∧ i ≤ s.size ∧ Lex0.isSpT s.data.toList = Lex0.isSpT (s.data.toList.drop i)) s.size 0 ⟨rfl, by omega, rfl⟩ ?_) ⟨rfl, rfl, rfl, trivial⟩ rfl
  rintro k i ⟨rfl, hj, heq⟩ K hK
  by_cases hlt : i < s.size
  case neg =>
    obtain rfl : i = s.size := by omega
    rw [List.drop_eq_nil_of_le (by rw [size_list]; exact Nat.le_refl _)] at heq
    repeat' (first | refine cseq ?_ | refine rtext ?_ | refine cfalse rfl ?_ | refine cret ?_ | refine cexit ?_ | refine jnil ?_ | (first | refine jmv rfl rfl rfl ?_ | refine jas_ rfl rfl rfl ?_ | (show Jo _ (.binOp _ _ _ _ _); refine jy (ylss rfl rfl (by (exact decide_eq_false (by omega)))) rfl rfl ?_) | (show Jo _ (.call _); ((show Jo _ (.call ⟨.builtin .len, _, #[9]⟩); refine jy (ylens rfl und9) rfl rfl ?_)))))
    exact post _ _ true heq rfl
  obtain ⟨c, hd, hbt⟩ := drop_bt hlt
  rw [hd] at heq
  have heq' : Lex0.isSpT s.data.toList = (Lex0.isSp c.toNat && Lex0.isSpT (s.data.toList.drop (i + 1))) := heq
  cases hc : Lex0.isSp c.toNat
  · rw [hc, Bool.false_and] at heq'
    repeat' ((fail_if_success (show PJ _ (Code.wp _ (Code.loop _) _) _ _)); first | (show Jo _ (.call ⟨.value (.func 51), _, _⟩); refine jcallq (v := .bool false) boPw rfl rfl rfl (quietC fun w _ => by rw [hbt, ← hc]; exact pageWhite_calls c.toNat w) ?_) | first | refine cseq ?_ | refine rtext ?_ | refine ctrue rfl ?_ | refine cfalse rfl ?_ | refine cskip ?_ | refine cblk ?_ | refine jnil ?_ | (first | refine jmv rfl rfl rfl ?_ | refine jas_ rfl rfl rfl ?_ | (show Jo _ (.binOp _ _ _ _ _); refine jy (ylss rfl rfl (by (exact decide_eq_true (by omega)))) rfl rfl ?_) | (show Jo _ (.index _ _ _); refine jy (yidx (c := bt _ _) rfl rfl und9 (by omega) (by omega) rfl) rfl rfl ?_) | (show Jo _ (.call _); first | (show Jo _ (.call ⟨.builtin .len, _, #[9]⟩); refine jy (ylens rfl und9) rfl rfl ?_) | (show Jo _ (.call ⟨.builtin .len, _, _⟩); refine jy (ylenl rfl und24) rfl rfl ?_))))
    refine fin (f' := [(0, .string s), (3, .slice (some ⟨g, 0, none⟩) 19 19), (4, .int .i64 (i : Nat)), (5, .int .i64 (0 : Nat)), (19, .slice (some ⟨g, 0, none⟩) 19 19), (20, .int .i64 (19 : Nat)), (21, .int .i64 (0 : Nat))]) (m' := [(g, strs wides, .c 9)])
      (cloop (ι := Nat) (fun j => [(0, .string s), (3, .slice (some ⟨g, 0, none⟩) 19 19), (4, .int .i64 (i : Nat)), (5, .int .i64 (0 : Nat)), (19, .slice (some ⟨g, 0, none⟩) 19 19), (20, .int .i64 (19 : Nat)), (21, .int .i64 (j : Nat))]) (fun _ => [(g, strs wides, .c 9)]) (fun k j => k = 19 - j ∧ j ≤ 19) 19 0 ⟨rfl, by omega⟩ ?_) ⟨rfl, rfl, rfl, rfl, rfl, rfl, rfl, trivial⟩ rfl
    rintro k2 j ⟨rfl, hj2⟩ K2 hK2
    by_cases hl2 : j < 19
    case neg =>
      obtain rfl : j = 19 := by omega
      repeat' (first | refine cseq ?_ | refine rtext ?_ | refine ctrue rfl ?_ | refine cfalse rfl ?_ | refine cret ?_ | refine cexit ?_ | refine tret ?_ | refine bret ?_ | refine jnil ?_ | (first | refine jmv rfl rfl rfl ?_ | refine jas_ rfl rfl rfl ?_ | (show Jo _ (.binOp _ _ _ _ _); first | refine jy (ylss rfl rfl (by (exact decide_eq_false (by omega)))) rfl rfl ?_ | refine jy (yeql rfl rfl (by (exact decide_eq_true (by omega)))) rfl rfl ?_)))
      exact post _ _ false heq' rfl
    obtain ⟨x, hx⟩ : ∃ x, wides[j]? = some x := ⟨_, List.getElem?_eq_getElem (by exact hl2)⟩
    have hxv : nth (strs wides) j = some (.string x) := by rw [nth_eq, strs, List.getElem?_map, hx]; rfl
    repeat' (first | refine cseq ?_ | refine rtext ?_ | refine ctrue rfl ?_ | refine cfalse rfl ?_ | refine cskip ?_ | refine cblk ?_ | refine tnorm ?_ | refine jnil ?_ | (first | refine jmv rfl rfl rfl ?_ | (show Jo _ (.load _ _); refine jy (yload (i := 0) (v := .string x) rfl rfl hxv one9) rfl rfl ?_) | refine jas_ rfl rfl rfl ?_ | (show Jo _ (.binOp _ _ _ _ _); first | (show Jo (some 31) (.binOp .add _ _ _ _); refine jy (yadd (c := ((j + 1 : Nat) : Int)) rfl rfl (by rw [i64_in (by omega) (by omega)]; omega)) rfl rfl ?_) | refine jy (ylss rfl rfl (by (exact decide_eq_true (by omega)))) rfl rfl ?_) | (show Jo _ (.call _); ((show Jo _ (.call ⟨.value (.func 52), _, _⟩); refine jcallq boPh rfl rfl rfl (quietC fun w _ => pageHas_calls s x i w hs hlt (wide_ok (i := i) hx ha).1 (wide_ok hx ha).2) ?_))) | (show Jo _ (.indexAddr _ _ _); refine jy (yat (p' := ⟨g, j, none⟩) rfl rfl und24 sz9 (by omega) (by omega) (add_at g j)) rfl rfl ?_)))
    exact fin (hK2 (19 - (j + 1)) (j + 1) (by omega) ⟨rfl, by omega⟩) ⟨rfl, rfl, rfl, rfl, rfl, rfl, rfl, trivial⟩ rfl
  · rw [hc, Bool.true_and] at heq'
    repeat' (first | (show Jo _ (.call ⟨.value (.func 51), _, _⟩); refine jcallq (v := .bool true) boPw rfl rfl rfl (quietC fun w _ => by rw [hbt, ← hc]; exact pageWhite_calls c.toNat w) ?_) | first | refine cseq ?_ | refine rtext ?_ | refine ctrue rfl ?_ | refine cskip ?_ | refine cblk ?_ | refine cexit ?_ | refine tnorm ?_ | refine jnil ?_ | (first | refine jmv rfl rfl rfl ?_ | refine jas_ rfl rfl rfl ?_ | (show Jo _ (.binOp _ _ _ _ _); first | (show Jo _ (.binOp .add _ _ _ _); refine jy (yadd (c := ((i + 1 : Nat) : Int)) rfl rfl (by rw [i64_in (by omega) (by omega)]; omega)) rfl rfl ?_) | refine jy (ylss rfl rfl (by (exact decide_eq_true (by omega)))) rfl rfl ?_) | (show Jo _ (.index _ _ _); refine jy (yidx (c := bt _ _) rfl rfl und9 (by omega) (by omega) rfl) rfl rfl ?_) | (show Jo _ (.call _); ((show Jo _ (.call ⟨.builtin .len, _, #[9]⟩); refine jy (ylens rfl und9) rfl rfl ?_)))))
    exact fin (hK (s.size - (i + 1)) (i + 1) (by omega) ⟨rfl, by omega, heq'⟩) ⟨rfl, rfl, rfl, trivial⟩ rfl
end Go.Proofs.YtkehggbmpdacpabGreatDoor.Lw
namespace Go.Proofs.YtkehggbmpdacpabGreatDoor.Pg
open Go.Rx hiding bt
open Go.RowKit Go.Proofs.YtkehggbmpdacpabGreatDoor.Dec0 Go.Proofs.YtkehggbmpdacpabGreatDoor.Lex0
theorem bo35 : bodyB Tryz.prog 40 = true := by kernel_rfl
theorem fb42_2 : fieldB Tryz.prog 59 2 = some 2 := by kernel_rfl
theorem or_pw {a n : Nat} (j : Nat) (hn : 2 ^ j = n) (ha : a < n) (hj : j < 15) : bits .or .u16 (a : Nat) ((n : Nat) : Int) = ((a + n : Nat) : Int) := by
  subst hn
  exact or_pow ha hj
def fstC : Code → Code
  | .seq a _ => a
  | c => c
def bRest (ty : Nat) (nw : Bool) (k : Nat) : Nat := bsum ((answers ty nw).drop k) k
section
variable {w : World} {ty g : Nat} {pos : Int} {tx : ByteArray} {fl : Bool} {is : Int} (hs : tx.size ≤ 4611686018427387904) (ha : ∀ c ∈ tx.data.toList, c.toNat < 128)
include hs ha
theorem bt15 {b : Nat} (hb : b < 32768) (h : b + bRest ty (!isSpT tx.data.toList) 15 = bitsT ty (!isSpT tx.data.toList)) : PJ ⟨111, [], fun _ => False, w⟩ ((sndN 17 (Tryz.f40.body.getD .skip)).wp Tryz.prog (bodyPost Tryz.prog Tryz.f40 (fun e w' => e = .returned (.int .u16 (bitsT ty (!isSpT tx.data.toList) : Nat)) ∧ Below w.heap.size w w'))) [(1, .pointer (some ⟨g, 0, none⟩)), (3, .int .u16 (b : Nat))] [(g, [.int .i64 ty, .int .i64 pos, .string tx, .bool fl, .int .u16 is], .c 59)] := by
  conv => arg 2; arg 2; whnf
  repeat' (first | refine cseq ?_ | refine rtext ?_ | refine cret ?_ | refine jnil ?_ | (first | refine jmv rfl rfl rfl ?_ | refine jas_ rfl rfl rfl ?_))
  exact ret1 rfl rfl rfl (fun w' hw' => ⟨by rw [← h]; rfl, hw'.2.below (fun k _ h => h) (Nat.le_refl _)⟩)
theorem bt14 {b : Nat} (hb : b < 16384) (h : b + bRest ty (!isSpT tx.data.toList) 14 = bitsT ty (!isSpT tx.data.toList)) : PJ ⟨111, [], fun _ => False, w⟩ ((sndN 16 (Tryz.f40.body.getD .skip)).wp Tryz.prog (bodyPost Tryz.prog Tryz.f40 (fun e w' => e = .returned (.int .u16 (bitsT ty (!isSpT tx.data.toList) : Nat)) ∧ Below w.heap.size w w'))) [(1, .pointer (some ⟨g, 0, none⟩)), (3, .int .u16 (b : Nat))] [(g, [.int .i64 ty, .int .i64 pos, .string tx, .bool fl, .int .u16 is], .c 59)] := by
  have e : bRest ty (!isSpT tx.data.toList) 14 = (if (decide (ty = 0)) = true then 2 ^ 14 else 0) + bRest ty (!isSpT tx.data.toList) 15 := rfl
  rw [show sndN 16 (Tryz.f40.body.getD .skip) = Code.seq (fstC (sndN 16 (Tryz.f40.body.getD .skip))) (sndN 17 (Tryz.f40.body.getD .skip)) by kernel_rfl]
  conv => arg 2; arg 2; arg 1; whnf
  repeat' ((fail_if_success (show PJ _ (Code.wp _ (sndN _ _) _) _ _)); first | first | refine cseq ?_ | refine rtext ?_ | refine ctrue rfl ?_ | refine cfalse rfl ?_ | refine cskip ?_ | refine jnil ?_ | (first | refine jmv rfl rfl rfl ?_ | (show Jo _ (.fieldAddr _ _ _); refine jy (yfield rfl fb42_0 rfl) rfl rfl ?_) | (show Jo _ (.load _ _); refine jy (yload (i := 0) rfl rfl rfl one3) rfl rfl ?_) | refine jas_ rfl rfl rfl ?_ | (show Jo _ (.binOp _ _ _ _ _); first | (show Jo _ (.binOp .or _ _ _ _); refine jy (yor (j := ((16384 : Nat) : Int)) (c := ((b + 16384 : Nat) : Int)) rfl rfl (or_pw 14 rfl hb (by decide))) rfl rfl ?_) | refine jeql rfl rfl rfl rfl (fun hq => ?_) (fun hq => ?_))))
  all_goals first
    | exact fin (bt15 hs ha (b := b + 16384) (by omega) (by rw [e, if_pos (show (decide (ty = 0)) = true from decide_eq_true (by omega))] at h; omega)) ⟨rfl, rfl, trivial⟩ rfl
    | exact fin (bt15 hs ha (b := b) (by omega) (by rw [e, if_neg (show ¬ (decide (ty = 0)) = true by rw [show (decide (ty = 0)) = false from decide_eq_false (by omega)]; exact Bool.noConfusion)] at h; omega)) ⟨rfl, rfl, trivial⟩ rfl
theorem bt13 {b : Nat} (hb : b < 8192) (h : b + bRest ty (!isSpT tx.data.toList) 13 = bitsT ty (!isSpT tx.data.toList)) : PJ ⟨111, [], fun _ => False, w⟩ ((sndN 15 (Tryz.f40.body.getD .skip)).wp Tryz.prog (bodyPost Tryz.prog Tryz.f40 (fun e w' => e = .returned (.int .u16 (bitsT ty (!isSpT tx.data.toList) : Nat)) ∧ Below w.heap.size w w'))) [(1, .pointer (some ⟨g, 0, none⟩)), (3, .int .u16 (b : Nat))] [(g, [.int .i64 ty, .int .i64 pos, .string tx, .bool fl, .int .u16 is], .c 59)] := by
  have e : bRest ty (!isSpT tx.data.toList) 13 = (if (decide (ty = 1)) = true then 2 ^ 13 else 0) + bRest ty (!isSpT tx.data.toList) 14 := rfl
  rw [show sndN 15 (Tryz.f40.body.getD .skip) = Code.seq (fstC (sndN 15 (Tryz.f40.body.getD .skip))) (sndN 16 (Tryz.f40.body.getD .skip)) by kernel_rfl]
  conv => arg 2; arg 2; arg 1; whnf
  repeat' ((fail_if_success (show PJ _ (Code.wp _ (sndN _ _) _) _ _)); first | first | refine cseq ?_ | refine rtext ?_ | refine ctrue rfl ?_ | refine cfalse rfl ?_ | refine cskip ?_ | refine jnil ?_ | (first | refine jmv rfl rfl rfl ?_ | (show Jo _ (.fieldAddr _ _ _); refine jy (yfield rfl fb42_0 rfl) rfl rfl ?_) | (show Jo _ (.load _ _); refine jy (yload (i := 0) rfl rfl rfl one3) rfl rfl ?_) | refine jas_ rfl rfl rfl ?_ | (show Jo _ (.binOp _ _ _ _ _); first | (show Jo _ (.binOp .or _ _ _ _); refine jy (yor (j := ((8192 : Nat) : Int)) (c := ((b + 8192 : Nat) : Int)) rfl rfl (or_pw 13 rfl hb (by decide))) rfl rfl ?_) | refine jeql rfl rfl rfl rfl (fun hq => ?_) (fun hq => ?_))))
  all_goals first
    | exact fin (bt14 hs ha (b := b + 8192) (by omega) (by rw [e, if_pos (show (decide (ty = 1)) = true from decide_eq_true (by omega))] at h; omega)) ⟨rfl, rfl, trivial⟩ rfl
    | exact fin (bt14 hs ha (b := b) (by omega) (by rw [e, if_neg (show ¬ (decide (ty = 1)) = true by rw [show (decide (ty = 1)) = false from decide_eq_false (by omega)]; exact Bool.noConfusion)] at h; omega)) ⟨rfl, rfl, trivial⟩ rfl
theorem bt12 {b : Nat} (hb : b < 4096) (h : b + bRest ty (!isSpT tx.data.toList) 12 = bitsT ty (!isSpT tx.data.toList)) : PJ ⟨111, [], fun _ => False, w⟩ ((sndN 14 (Tryz.f40.body.getD .skip)).wp Tryz.prog (bodyPost Tryz.prog Tryz.f40 (fun e w' => e = .returned (.int .u16 (bitsT ty (!isSpT tx.data.toList) : Nat)) ∧ Below w.heap.size w w'))) [(1, .pointer (some ⟨g, 0, none⟩)), (3, .int .u16 (b : Nat))] [(g, [.int .i64 ty, .int .i64 pos, .string tx, .bool fl, .int .u16 is], .c 59)] := by
  have e : bRest ty (!isSpT tx.data.toList) 12 = (if (decide (ty = 0 ∨ ty = 1)) = true then 2 ^ 12 else 0) + bRest ty (!isSpT tx.data.toList) 13 := rfl
  rw [show sndN 14 (Tryz.f40.body.getD .skip) = Code.seq (fstC (sndN 14 (Tryz.f40.body.getD .skip))) (sndN 15 (Tryz.f40.body.getD .skip)) by kernel_rfl]
  conv => arg 2; arg 2; arg 1; whnf
  repeat' ((fail_if_success (show PJ _ (Code.wp _ (sndN _ _) _) _ _)); first | first | refine cseq ?_ | refine rtext ?_ | refine ctrue rfl ?_ | refine cfalse rfl ?_ | refine cskip ?_ | refine jnil ?_ | (first | refine js rfl rfl ?_ | refine jmv rfl rfl rfl ?_ | (show Jo _ (.fieldAddr _ _ _); refine jy (yfield rfl fb42_0 rfl) rfl rfl ?_) | (show Jo _ (.load _ _); refine jy (yload (i := 0) rfl rfl rfl one3) rfl rfl ?_) | refine jas_ rfl rfl rfl ?_ | (show Jo _ (.binOp _ _ _ _ _); first | (show Jo _ (.binOp .or _ _ _ _); refine jy (yor (j := ((4096 : Nat) : Int)) (c := ((b + 4096 : Nat) : Int)) rfl rfl (or_pw 12 rfl hb (by decide))) rfl rfl ?_) | refine jeql rfl rfl rfl rfl (fun hq => ?_) (fun hq => ?_)) | (show Jo _ (.pick _ _ _); first | refine jy (ypick1 rfl rfl) rfl rfl ?_ | refine jy (ypick0 rfl rfl) rfl rfl ?_)))
  all_goals first
    | exact fin (bt13 hs ha (b := b + 4096) (by omega) (by rw [e, if_pos (show (decide (ty = 0 ∨ ty = 1)) = true from decide_eq_true (by omega))] at h; omega)) ⟨rfl, rfl, trivial⟩ rfl
    | exact fin (bt13 hs ha (b := b) (by omega) (by rw [e, if_neg (show ¬ (decide (ty = 0 ∨ ty = 1)) = true by rw [show (decide (ty = 0 ∨ ty = 1)) = false from decide_eq_false (by omega)]; exact Bool.noConfusion)] at h; omega)) ⟨rfl, rfl, trivial⟩ rfl
theorem bt11 {b : Nat} (hb : b < 2048) (h : b + bRest ty (!isSpT tx.data.toList) 11 = bitsT ty (!isSpT tx.data.toList)) : PJ ⟨111, [], fun _ => False, w⟩ ((sndN 13 (Tryz.f40.body.getD .skip)).wp Tryz.prog (bodyPost Tryz.prog Tryz.f40 (fun e w' => e = .returned (.int .u16 (bitsT ty (!isSpT tx.data.toList) : Nat)) ∧ Below w.heap.size w w'))) [(1, .pointer (some ⟨g, 0, none⟩)), (3, .int .u16 (b : Nat))] [(g, [.int .i64 ty, .int .i64 pos, .string tx, .bool fl, .int .u16 is], .c 59)] := by
  have e : bRest ty (!isSpT tx.data.toList) 11 = (if (decide (3 ≤ ty ∧ ty ≤ 6)) = true then 2 ^ 11 else 0) + bRest ty (!isSpT tx.data.toList) 12 := rfl
  rw [show sndN 13 (Tryz.f40.body.getD .skip) = Code.seq (fstC (sndN 13 (Tryz.f40.body.getD .skip))) (sndN 14 (Tryz.f40.body.getD .skip)) by kernel_rfl]
  conv => arg 2; arg 2; arg 1; whnf
  repeat' ((fail_if_success (show PJ _ (Code.wp _ (sndN _ _) _) _ _)); first | first | refine cseq ?_ | refine rtext ?_ | refine ctrue rfl ?_ | refine cfalse rfl ?_ | refine cskip ?_ | refine jnil ?_ | (first | refine js rfl rfl ?_ | refine jmv rfl rfl rfl ?_ | (show Jo _ (.fieldAddr _ _ _); refine jy (yfield rfl fb42_0 rfl) rfl rfl ?_) | (show Jo _ (.load _ _); refine jy (yload (i := 0) rfl rfl rfl one3) rfl rfl ?_) | refine jas_ rfl rfl rfl ?_ | (show Jo _ (.binOp _ _ _ _ _); first | (show Jo _ (.binOp .or _ _ _ _); refine jy (yor (j := ((2048 : Nat) : Int)) (c := ((b + 2048 : Nat) : Int)) rfl rfl (or_pw 11 rfl hb (by decide))) rfl rfl ?_) | (show Jo _ (.binOp .leq _ _ _ _); refine jleq rfl rfl rfl rfl (fun hq => ?_) (fun hq => ?_)) | refine jgeq rfl rfl rfl rfl (fun hq => ?_) (fun hq => ?_)) | (show Jo _ (.pick _ _ _); first | refine jy (ypick1 rfl rfl) rfl rfl ?_ | refine jy (ypick0 rfl rfl) rfl rfl ?_)))
  all_goals first
    | exact fin (bt12 hs ha (b := b + 2048) (by omega) (by rw [e, if_pos (show (decide (3 ≤ ty ∧ ty ≤ 6)) = true from decide_eq_true (by omega))] at h; omega)) ⟨rfl, rfl, trivial⟩ rfl
    | exact fin (bt12 hs ha (b := b) (by omega) (by rw [e, if_neg (show ¬ (decide (3 ≤ ty ∧ ty ≤ 6)) = true by rw [show (decide (3 ≤ ty ∧ ty ≤ 6)) = false from decide_eq_false (by omega)]; exact Bool.noConfusion)] at h; omega)) ⟨rfl, rfl, trivial⟩ rfl
theorem bt10 {b : Nat} (hb : b < 1024) (h : b + bRest ty (!isSpT tx.data.toList) 10 = bitsT ty (!isSpT tx.data.toList)) : PJ ⟨111, [], fun _ => False, w⟩ ((sndN 12 (Tryz.f40.body.getD .skip)).wp Tryz.prog (bodyPost Tryz.prog Tryz.f40 (fun e w' => e = .returned (.int .u16 (bitsT ty (!isSpT tx.data.toList) : Nat)) ∧ Below w.heap.size w w'))) [(1, .pointer (some ⟨g, 0, none⟩)), (3, .int .u16 (b : Nat))] [(g, [.int .i64 ty, .int .i64 pos, .string tx, .bool fl, .int .u16 is], .c 59)] := by
  have e : bRest ty (!isSpT tx.data.toList) 10 = (if (decide (ty = 10 ∨ ty = 11)) = true then 2 ^ 10 else 0) + bRest ty (!isSpT tx.data.toList) 11 := rfl
  rw [show sndN 12 (Tryz.f40.body.getD .skip) = Code.seq (fstC (sndN 12 (Tryz.f40.body.getD .skip))) (sndN 13 (Tryz.f40.body.getD .skip)) by kernel_rfl]
  conv => arg 2; arg 2; arg 1; whnf
  repeat' ((fail_if_success (show PJ _ (Code.wp _ (sndN _ _) _) _ _)); first | first | refine cseq ?_ | refine rtext ?_ | refine ctrue rfl ?_ | refine cfalse rfl ?_ | refine cskip ?_ | refine jnil ?_ | (first | refine js rfl rfl ?_ | refine jmv rfl rfl rfl ?_ | (show Jo _ (.fieldAddr _ _ _); refine jy (yfield rfl fb42_0 rfl) rfl rfl ?_) | (show Jo _ (.load _ _); refine jy (yload (i := 0) rfl rfl rfl one3) rfl rfl ?_) | refine jas_ rfl rfl rfl ?_ | (show Jo _ (.binOp _ _ _ _ _); first | (show Jo _ (.binOp .or _ _ _ _); refine jy (yor (j := ((1024 : Nat) : Int)) (c := ((b + 1024 : Nat) : Int)) rfl rfl (or_pw 10 rfl hb (by decide))) rfl rfl ?_) | refine jeql rfl rfl rfl rfl (fun hq => ?_) (fun hq => ?_)) | (show Jo _ (.pick _ _ _); first | refine jy (ypick1 rfl rfl) rfl rfl ?_ | refine jy (ypick0 rfl rfl) rfl rfl ?_)))
  all_goals first
    | exact fin (bt11 hs ha (b := b + 1024) (by omega) (by rw [e, if_pos (show (decide (ty = 10 ∨ ty = 11)) = true from decide_eq_true (by omega))] at h; omega)) ⟨rfl, rfl, trivial⟩ rfl
    | exact fin (bt11 hs ha (b := b) (by omega) (by rw [e, if_neg (show ¬ (decide (ty = 10 ∨ ty = 11)) = true by rw [show (decide (ty = 10 ∨ ty = 11)) = false from decide_eq_false (by omega)]; exact Bool.noConfusion)] at h; omega)) ⟨rfl, rfl, trivial⟩ rfl
theorem bt9 {b : Nat} (hb : b < 512) (h : b + bRest ty (!isSpT tx.data.toList) 9 = bitsT ty (!isSpT tx.data.toList)) : PJ ⟨111, [], fun _ => False, w⟩ ((sndN 11 (Tryz.f40.body.getD .skip)).wp Tryz.prog (bodyPost Tryz.prog Tryz.f40 (fun e w' => e = .returned (.int .u16 (bitsT ty (!isSpT tx.data.toList) : Nat)) ∧ Below w.heap.size w w'))) [(1, .pointer (some ⟨g, 0, none⟩)), (3, .int .u16 (b : Nat))] [(g, [.int .i64 ty, .int .i64 pos, .string tx, .bool fl, .int .u16 is], .c 59)] := by
  have e : bRest ty (!isSpT tx.data.toList) 9 = (if (decide (ty = 16)) = true then 2 ^ 9 else 0) + bRest ty (!isSpT tx.data.toList) 10 := rfl
  rw [show sndN 11 (Tryz.f40.body.getD .skip) = Code.seq (fstC (sndN 11 (Tryz.f40.body.getD .skip))) (sndN 12 (Tryz.f40.body.getD .skip)) by kernel_rfl]
  conv => arg 2; arg 2; arg 1; whnf
  repeat' ((fail_if_success (show PJ _ (Code.wp _ (sndN _ _) _) _ _)); first | first | refine cseq ?_ | refine rtext ?_ | refine ctrue rfl ?_ | refine cfalse rfl ?_ | refine cskip ?_ | refine jnil ?_ | (first | refine jmv rfl rfl rfl ?_ | (show Jo _ (.fieldAddr _ _ _); refine jy (yfield rfl fb42_0 rfl) rfl rfl ?_) | (show Jo _ (.load _ _); refine jy (yload (i := 0) rfl rfl rfl one3) rfl rfl ?_) | refine jas_ rfl rfl rfl ?_ | (show Jo _ (.binOp _ _ _ _ _); first | (show Jo _ (.binOp .or _ _ _ _); refine jy (yor (j := ((512 : Nat) : Int)) (c := ((b + 512 : Nat) : Int)) rfl rfl (or_pw 9 rfl hb (by decide))) rfl rfl ?_) | refine jeql rfl rfl rfl rfl (fun hq => ?_) (fun hq => ?_))))
  all_goals first
    | exact fin (bt10 hs ha (b := b + 512) (by omega) (by rw [e, if_pos (show (decide (ty = 16)) = true from decide_eq_true (by omega))] at h; omega)) ⟨rfl, rfl, trivial⟩ rfl
    | exact fin (bt10 hs ha (b := b) (by omega) (by rw [e, if_neg (show ¬ (decide (ty = 16)) = true by rw [show (decide (ty = 16)) = false from decide_eq_false (by omega)]; exact Bool.noConfusion)] at h; omega)) ⟨rfl, rfl, trivial⟩ rfl
theorem bt8 {b : Nat} (hb : b < 256) (h : b + bRest ty (!isSpT tx.data.toList) 8 = bitsT ty (!isSpT tx.data.toList)) : PJ ⟨111, [], fun _ => False, w⟩ ((sndN 10 (Tryz.f40.body.getD .skip)).wp Tryz.prog (bodyPost Tryz.prog Tryz.f40 (fun e w' => e = .returned (.int .u16 (bitsT ty (!isSpT tx.data.toList) : Nat)) ∧ Below w.heap.size w w'))) [(1, .pointer (some ⟨g, 0, none⟩)), (3, .int .u16 (b : Nat))] [(g, [.int .i64 ty, .int .i64 pos, .string tx, .bool fl, .int .u16 is], .c 59)] := by
  have e : bRest ty (!isSpT tx.data.toList) 8 = (if (decide (ty = 15)) = true then 2 ^ 8 else 0) + bRest ty (!isSpT tx.data.toList) 9 := rfl
  rw [show sndN 10 (Tryz.f40.body.getD .skip) = Code.seq (fstC (sndN 10 (Tryz.f40.body.getD .skip))) (sndN 11 (Tryz.f40.body.getD .skip)) by kernel_rfl]
  conv => arg 2; arg 2; arg 1; whnf
  repeat' ((fail_if_success (show PJ _ (Code.wp _ (sndN _ _) _) _ _)); first | first | refine cseq ?_ | refine rtext ?_ | refine ctrue rfl ?_ | refine cfalse rfl ?_ | refine cskip ?_ | refine jnil ?_ | (first | refine jmv rfl rfl rfl ?_ | (show Jo _ (.fieldAddr _ _ _); refine jy (yfield rfl fb42_0 rfl) rfl rfl ?_) | (show Jo _ (.load _ _); refine jy (yload (i := 0) rfl rfl rfl one3) rfl rfl ?_) | refine jas_ rfl rfl rfl ?_ | (show Jo _ (.binOp _ _ _ _ _); first | (show Jo _ (.binOp .or _ _ _ _); refine jy (yor (j := ((256 : Nat) : Int)) (c := ((b + 256 : Nat) : Int)) rfl rfl (or_pw 8 rfl hb (by decide))) rfl rfl ?_) | refine jeql rfl rfl rfl rfl (fun hq => ?_) (fun hq => ?_))))
  all_goals first
    | exact fin (bt9 hs ha (b := b + 256) (by omega) (by rw [e, if_pos (show (decide (ty = 15)) = true from decide_eq_true (by omega))] at h; omega)) ⟨rfl, rfl, trivial⟩ rfl
    | exact fin (bt9 hs ha (b := b) (by omega) (by rw [e, if_neg (show ¬ (decide (ty = 15)) = true by rw [show (decide (ty = 15)) = false from decide_eq_false (by omega)]; exact Bool.noConfusion)] at h; omega)) ⟨rfl, rfl, trivial⟩ rfl
theorem bt7 {b : Nat} (hb : b < 128) (h : b + bRest ty (!isSpT tx.data.toList) 7 = bitsT ty (!isSpT tx.data.toList)) : PJ ⟨111, [], fun _ => False, w⟩ ((sndN 9 (Tryz.f40.body.getD .skip)).wp Tryz.prog (bodyPost Tryz.prog Tryz.f40 (fun e w' => e = .returned (.int .u16 (bitsT ty (!isSpT tx.data.toList) : Nat)) ∧ Below w.heap.size w w'))) [(1, .pointer (some ⟨g, 0, none⟩)), (3, .int .u16 (b : Nat))] [(g, [.int .i64 ty, .int .i64 pos, .string tx, .bool fl, .int .u16 is], .c 59)] := by
  have e : bRest ty (!isSpT tx.data.toList) 7 = (if (decide (ty = 12)) = true then 2 ^ 7 else 0) + bRest ty (!isSpT tx.data.toList) 8 := rfl
  rw [show sndN 9 (Tryz.f40.body.getD .skip) = Code.seq (fstC (sndN 9 (Tryz.f40.body.getD .skip))) (sndN 10 (Tryz.f40.body.getD .skip)) by kernel_rfl]
  conv => arg 2; arg 2; arg 1; whnf
  repeat' ((fail_if_success (show PJ _ (Code.wp _ (sndN _ _) _) _ _)); first | first | refine cseq ?_ | refine rtext ?_ | refine ctrue rfl ?_ | refine cfalse rfl ?_ | refine cskip ?_ | refine jnil ?_ | (first | refine jmv rfl rfl rfl ?_ | (show Jo _ (.fieldAddr _ _ _); refine jy (yfield rfl fb42_0 rfl) rfl rfl ?_) | (show Jo _ (.load _ _); refine jy (yload (i := 0) rfl rfl rfl one3) rfl rfl ?_) | refine jas_ rfl rfl rfl ?_ | (show Jo _ (.binOp _ _ _ _ _); first | (show Jo _ (.binOp .or _ _ _ _); refine jy (yor (j := ((128 : Nat) : Int)) (c := ((b + 128 : Nat) : Int)) rfl rfl (or_pw 7 rfl hb (by decide))) rfl rfl ?_) | refine jeql rfl rfl rfl rfl (fun hq => ?_) (fun hq => ?_))))
  all_goals first
    | exact fin (bt8 hs ha (b := b + 128) (by omega) (by rw [e, if_pos (show (decide (ty = 12)) = true from decide_eq_true (by omega))] at h; omega)) ⟨rfl, rfl, trivial⟩ rfl
    | exact fin (bt8 hs ha (b := b) (by omega) (by rw [e, if_neg (show ¬ (decide (ty = 12)) = true by rw [show (decide (ty = 12)) = false from decide_eq_false (by omega)]; exact Bool.noConfusion)] at h; omega)) ⟨rfl, rfl, trivial⟩ rfl
theorem bt6 {b : Nat} (hb : b < 64) (h : b + bRest ty (!isSpT tx.data.toList) 6 = bitsT ty (!isSpT tx.data.toList)) : PJ ⟨111, [], fun _ => False, w⟩ ((sndN 8 (Tryz.f40.body.getD .skip)).wp Tryz.prog (bodyPost Tryz.prog Tryz.f40 (fun e w' => e = .returned (.int .u16 (bitsT ty (!isSpT tx.data.toList) : Nat)) ∧ Below w.heap.size w w'))) [(1, .pointer (some ⟨g, 0, none⟩)), (3, .int .u16 (b : Nat))] [(g, [.int .i64 ty, .int .i64 pos, .string tx, .bool fl, .int .u16 is], .c 59)] := by
  have e : bRest ty (!isSpT tx.data.toList) 6 = (if (decide (ty = 11 ∨ ty = 9)) = true then 2 ^ 6 else 0) + bRest ty (!isSpT tx.data.toList) 7 := rfl
  rw [show sndN 8 (Tryz.f40.body.getD .skip) = Code.seq (fstC (sndN 8 (Tryz.f40.body.getD .skip))) (sndN 9 (Tryz.f40.body.getD .skip)) by kernel_rfl]
  conv => arg 2; arg 2; arg 1; whnf
  repeat' ((fail_if_success (show PJ _ (Code.wp _ (sndN _ _) _) _ _)); first | first | refine cseq ?_ | refine rtext ?_ | refine ctrue rfl ?_ | refine cfalse rfl ?_ | refine cskip ?_ | refine jnil ?_ | (first | refine js rfl rfl ?_ | refine jmv rfl rfl rfl ?_ | (show Jo _ (.fieldAddr _ _ _); refine jy (yfield rfl fb42_0 rfl) rfl rfl ?_) | (show Jo _ (.load _ _); refine jy (yload (i := 0) rfl rfl rfl one3) rfl rfl ?_) | refine jas_ rfl rfl rfl ?_ | (show Jo _ (.binOp _ _ _ _ _); first | (show Jo _ (.binOp .or _ _ _ _); refine jy (yor (j := ((64 : Nat) : Int)) (c := ((b + 64 : Nat) : Int)) rfl rfl (or_pw 6 rfl hb (by decide))) rfl rfl ?_) | refine jeql rfl rfl rfl rfl (fun hq => ?_) (fun hq => ?_)) | (show Jo _ (.pick _ _ _); first | refine jy (ypick1 rfl rfl) rfl rfl ?_ | refine jy (ypick0 rfl rfl) rfl rfl ?_)))
  all_goals first
    | exact fin (bt7 hs ha (b := b + 64) (by omega) (by rw [e, if_pos (show (decide (ty = 11 ∨ ty = 9)) = true from decide_eq_true (by omega))] at h; omega)) ⟨rfl, rfl, trivial⟩ rfl
    | exact fin (bt7 hs ha (b := b) (by omega) (by rw [e, if_neg (show ¬ (decide (ty = 11 ∨ ty = 9)) = true by rw [show (decide (ty = 11 ∨ ty = 9)) = false from decide_eq_false (by omega)]; exact Bool.noConfusion)] at h; omega)) ⟨rfl, rfl, trivial⟩ rfl
theorem bt5 {b : Nat} (hb : b < 32) (h : b + bRest ty (!isSpT tx.data.toList) 5 = bitsT ty (!isSpT tx.data.toList)) : PJ ⟨111, [], fun _ => False, w⟩ ((sndN 7 (Tryz.f40.body.getD .skip)).wp Tryz.prog (bodyPost Tryz.prog Tryz.f40 (fun e w' => e = .returned (.int .u16 (bitsT ty (!isSpT tx.data.toList) : Nat)) ∧ Below w.heap.size w w'))) [(1, .pointer (some ⟨g, 0, none⟩)), (3, .int .u16 (b : Nat))] [(g, [.int .i64 ty, .int .i64 pos, .string tx, .bool fl, .int .u16 is], .c 59)] := by
  have e : bRest ty (!isSpT tx.data.toList) 5 = (if (decide (ty = 10 ∨ ty = 8)) = true then 2 ^ 5 else 0) + bRest ty (!isSpT tx.data.toList) 6 := rfl
  rw [show sndN 7 (Tryz.f40.body.getD .skip) = Code.seq (fstC (sndN 7 (Tryz.f40.body.getD .skip))) (sndN 8 (Tryz.f40.body.getD .skip)) by kernel_rfl]
  conv => arg 2; arg 2; arg 1; whnf
  repeat' ((fail_if_success (show PJ _ (Code.wp _ (sndN _ _) _) _ _)); first | first | refine cseq ?_ | refine rtext ?_ | refine ctrue rfl ?_ | refine cfalse rfl ?_ | refine cskip ?_ | refine jnil ?_ | (first | refine js rfl rfl ?_ | refine jmv rfl rfl rfl ?_ | (show Jo _ (.fieldAddr _ _ _); refine jy (yfield rfl fb42_0 rfl) rfl rfl ?_) | (show Jo _ (.load _ _); refine jy (yload (i := 0) rfl rfl rfl one3) rfl rfl ?_) | refine jas_ rfl rfl rfl ?_ | (show Jo _ (.binOp _ _ _ _ _); first | (show Jo _ (.binOp .or _ _ _ _); refine jy (yor (j := ((32 : Nat) : Int)) (c := ((b + 32 : Nat) : Int)) rfl rfl (or_pw 5 rfl hb (by decide))) rfl rfl ?_) | refine jeql rfl rfl rfl rfl (fun hq => ?_) (fun hq => ?_)) | (show Jo _ (.pick _ _ _); first | refine jy (ypick1 rfl rfl) rfl rfl ?_ | refine jy (ypick0 rfl rfl) rfl rfl ?_)))
  all_goals first
    | exact fin (bt6 hs ha (b := b + 32) (by omega) (by rw [e, if_pos (show (decide (ty = 10 ∨ ty = 8)) = true from decide_eq_true (by omega))] at h; omega)) ⟨rfl, rfl, trivial⟩ rfl
    | exact fin (bt6 hs ha (b := b) (by omega) (by rw [e, if_neg (show ¬ (decide (ty = 10 ∨ ty = 8)) = true by rw [show (decide (ty = 10 ∨ ty = 8)) = false from decide_eq_false (by omega)]; exact Bool.noConfusion)] at h; omega)) ⟨rfl, rfl, trivial⟩ rfl
theorem bt4 {b : Nat} (hb : b < 16) (h : b + bRest ty (!isSpT tx.data.toList) 4 = bitsT ty (!isSpT tx.data.toList)) : PJ ⟨111, [], fun _ => False, w⟩ ((sndN 6 (Tryz.f40.body.getD .skip)).wp Tryz.prog (bodyPost Tryz.prog Tryz.f40 (fun e w' => e = .returned (.int .u16 (bitsT ty (!isSpT tx.data.toList) : Nat)) ∧ Below w.heap.size w w'))) [(1, .pointer (some ⟨g, 0, none⟩)), (3, .int .u16 (b : Nat))] [(g, [.int .i64 ty, .int .i64 pos, .string tx, .bool fl, .int .u16 is], .c 59)] := by
  have e : bRest ty (!isSpT tx.data.toList) 4 = (if (decide (ty = 14)) = true then 2 ^ 4 else 0) + bRest ty (!isSpT tx.data.toList) 5 := rfl
  rw [show sndN 6 (Tryz.f40.body.getD .skip) = Code.seq (fstC (sndN 6 (Tryz.f40.body.getD .skip))) (sndN 7 (Tryz.f40.body.getD .skip)) by kernel_rfl]
  conv => arg 2; arg 2; arg 1; whnf
  repeat' ((fail_if_success (show PJ _ (Code.wp _ (sndN _ _) _) _ _)); first | first | refine cseq ?_ | refine rtext ?_ | refine ctrue rfl ?_ | refine cfalse rfl ?_ | refine cskip ?_ | refine jnil ?_ | (first | refine jmv rfl rfl rfl ?_ | (show Jo _ (.fieldAddr _ _ _); refine jy (yfield rfl fb42_0 rfl) rfl rfl ?_) | (show Jo _ (.load _ _); refine jy (yload (i := 0) rfl rfl rfl one3) rfl rfl ?_) | refine jas_ rfl rfl rfl ?_ | (show Jo _ (.binOp _ _ _ _ _); first | (show Jo _ (.binOp .or _ _ _ _); refine jy (yor (j := ((16 : Nat) : Int)) (c := ((b + 16 : Nat) : Int)) rfl rfl (or_pw 4 rfl hb (by decide))) rfl rfl ?_) | refine jeql rfl rfl rfl rfl (fun hq => ?_) (fun hq => ?_))))
  all_goals first
    | exact fin (bt5 hs ha (b := b + 16) (by omega) (by rw [e, if_pos (show (decide (ty = 14)) = true from decide_eq_true (by omega))] at h; omega)) ⟨rfl, rfl, trivial⟩ rfl
    | exact fin (bt5 hs ha (b := b) (by omega) (by rw [e, if_neg (show ¬ (decide (ty = 14)) = true by rw [show (decide (ty = 14)) = false from decide_eq_false (by omega)]; exact Bool.noConfusion)] at h; omega)) ⟨rfl, rfl, trivial⟩ rfl
theorem bt3 {b : Nat} (hb : b < 8) (h : b + bRest ty (!isSpT tx.data.toList) 3 = bitsT ty (!isSpT tx.data.toList)) : PJ ⟨111, [], fun _ => False, w⟩ ((sndN 5 (Tryz.f40.body.getD .skip)).wp Tryz.prog (bodyPost Tryz.prog Tryz.f40 (fun e w' => e = .returned (.int .u16 (bitsT ty (!isSpT tx.data.toList) : Nat)) ∧ Below w.heap.size w w'))) [(1, .pointer (some ⟨g, 0, none⟩)), (3, .int .u16 (b : Nat))] [(g, [.int .i64 ty, .int .i64 pos, .string tx, .bool fl, .int .u16 is], .c 59)] := by
  have e : bRest ty (!isSpT tx.data.toList) 3 = (if (decide (ty = 13)) = true then 2 ^ 3 else 0) + bRest ty (!isSpT tx.data.toList) 4 := rfl
  rw [show sndN 5 (Tryz.f40.body.getD .skip) = Code.seq (fstC (sndN 5 (Tryz.f40.body.getD .skip))) (sndN 6 (Tryz.f40.body.getD .skip)) by kernel_rfl]
  conv => arg 2; arg 2; arg 1; whnf
  repeat' ((fail_if_success (show PJ _ (Code.wp _ (sndN _ _) _) _ _)); first | first | refine cseq ?_ | refine rtext ?_ | refine ctrue rfl ?_ | refine cfalse rfl ?_ | refine cskip ?_ | refine jnil ?_ | (first | refine jmv rfl rfl rfl ?_ | (show Jo _ (.fieldAddr _ _ _); refine jy (yfield rfl fb42_0 rfl) rfl rfl ?_) | (show Jo _ (.load _ _); refine jy (yload (i := 0) rfl rfl rfl one3) rfl rfl ?_) | refine jas_ rfl rfl rfl ?_ | (show Jo _ (.binOp _ _ _ _ _); first | (show Jo _ (.binOp .or _ _ _ _); refine jy (yor (j := ((8 : Nat) : Int)) (c := ((b + 8 : Nat) : Int)) rfl rfl (or_pw 3 rfl hb (by decide))) rfl rfl ?_) | refine jeql rfl rfl rfl rfl (fun hq => ?_) (fun hq => ?_))))
  all_goals first
    | exact fin (bt4 hs ha (b := b + 8) (by omega) (by rw [e, if_pos (show (decide (ty = 13)) = true from decide_eq_true (by omega))] at h; omega)) ⟨rfl, rfl, trivial⟩ rfl
    | exact fin (bt4 hs ha (b := b) (by omega) (by rw [e, if_neg (show ¬ (decide (ty = 13)) = true by rw [show (decide (ty = 13)) = false from decide_eq_false (by omega)]; exact Bool.noConfusion)] at h; omega)) ⟨rfl, rfl, trivial⟩ rfl
theorem bt2 {b : Nat} (hb : b < 4) (h : b + bRest ty (!isSpT tx.data.toList) 2 = bitsT ty (!isSpT tx.data.toList)) : PJ ⟨111, [], fun _ => False, w⟩ ((sndN 4 (Tryz.f40.body.getD .skip)).wp Tryz.prog (bodyPost Tryz.prog Tryz.f40 (fun e w' => e = .returned (.int .u16 (bitsT ty (!isSpT tx.data.toList) : Nat)) ∧ Below w.heap.size w w'))) [(1, .pointer (some ⟨g, 0, none⟩)), (3, .int .u16 (b : Nat))] [(g, [.int .i64 ty, .int .i64 pos, .string tx, .bool fl, .int .u16 is], .c 59)] := by
  have e : bRest ty (!isSpT tx.data.toList) 2 = (if (!isSpT tx.data.toList) = true then 2 ^ 2 else 0) + bRest ty (!isSpT tx.data.toList) 3 := rfl
  rw [show sndN 4 (Tryz.f40.body.getD .skip) = Code.seq (fstC (sndN 4 (Tryz.f40.body.getD .skip))) (sndN 5 (Tryz.f40.body.getD .skip)) by kernel_rfl]
  conv => arg 2; arg 2; arg 1; whnf
  repeat' ((fail_if_success (show PJ _ (Code.wp _ (sndN _ _) _) _ _)); first | first | refine cseq ?_ | refine rtext ?_ | refine ctrue rfl ?_ | refine cfalse rfl ?_ | refine cskip ?_ | refine jnil ?_ | (first | refine jmv rfl rfl rfl ?_ | (show Jo _ (.fieldAddr _ _ _); refine jy (yfield rfl fb42_2 rfl) rfl rfl ?_) | (show Jo _ (.load _ _); refine jy (yload (i := 0) rfl rfl rfl one3) rfl rfl ?_) | refine jas_ rfl rfl rfl ?_ | (show Jo _ (.binOp _ _ _ _ _); ((show Jo _ (.binOp .or _ _ _ _); refine jy (yor (j := ((4 : Nat) : Int)) (c := ((b + 4 : Nat) : Int)) rfl rfl (or_pw 2 rfl hb (by decide))) rfl rfl ?_))) | refine jy (ynot rfl rfl) rfl rfl ?_ | (show Jo _ (.call _); ((show Jo _ (.call ⟨.value (.func 46), _, _⟩); refine jcallq Lw.boSp rfl rfl rfl (quietC fun w _ => Lw.pageSpace_calls tx w hs ha) ?_; refine jcases (fun hw => ?_) (fun hw => ?_))))))
  all_goals first
    | exact fin (bt3 hs ha (b := b + 4) (by omega) (by rw [e, if_pos (show (!isSpT tx.data.toList) = true from by rw [hw]; rfl)] at h; omega)) ⟨rfl, rfl, trivial⟩ rfl
    | exact fin (bt3 hs ha (b := b) (by omega) (by rw [e, if_neg (show ¬ (!isSpT tx.data.toList) = true by rw [show (!isSpT tx.data.toList) = false from by rw [hw]; rfl]; exact Bool.noConfusion)] at h; omega)) ⟨rfl, rfl, trivial⟩ rfl
theorem bt1 {b : Nat} (hb : b < 2) (h : b + bRest ty (!isSpT tx.data.toList) 1 = bitsT ty (!isSpT tx.data.toList)) : PJ ⟨111, [], fun _ => False, w⟩ ((sndN 3 (Tryz.f40.body.getD .skip)).wp Tryz.prog (bodyPost Tryz.prog Tryz.f40 (fun e w' => e = .returned (.int .u16 (bitsT ty (!isSpT tx.data.toList) : Nat)) ∧ Below w.heap.size w w'))) [(1, .pointer (some ⟨g, 0, none⟩)), (3, .int .u16 (b : Nat))] [(g, [.int .i64 ty, .int .i64 pos, .string tx, .bool fl, .int .u16 is], .c 59)] := by
  have e : bRest ty (!isSpT tx.data.toList) 1 = (if (decide (ty = 17)) = true then 2 ^ 1 else 0) + bRest ty (!isSpT tx.data.toList) 2 := rfl
  rw [show sndN 3 (Tryz.f40.body.getD .skip) = Code.seq (fstC (sndN 3 (Tryz.f40.body.getD .skip))) (sndN 4 (Tryz.f40.body.getD .skip)) by kernel_rfl]
  conv => arg 2; arg 2; arg 1; whnf
  repeat' ((fail_if_success (show PJ _ (Code.wp _ (sndN _ _) _) _ _)); first | first | refine cseq ?_ | refine rtext ?_ | refine ctrue rfl ?_ | refine cfalse rfl ?_ | refine cskip ?_ | refine jnil ?_ | (first | refine jmv rfl rfl rfl ?_ | (show Jo _ (.fieldAddr _ _ _); refine jy (yfield rfl fb42_0 rfl) rfl rfl ?_) | (show Jo _ (.load _ _); refine jy (yload (i := 0) rfl rfl rfl one3) rfl rfl ?_) | refine jas_ rfl rfl rfl ?_ | (show Jo _ (.binOp _ _ _ _ _); first | (show Jo _ (.binOp .or _ _ _ _); refine jy (yor (j := ((2 : Nat) : Int)) (c := ((b + 2 : Nat) : Int)) rfl rfl (or_pw 1 rfl hb (by decide))) rfl rfl ?_) | refine jeql rfl rfl rfl rfl (fun hq => ?_) (fun hq => ?_))))
  all_goals first
    | exact fin (bt2 hs ha (b := b + 2) (by omega) (by rw [e, if_pos (show (decide (ty = 17)) = true from decide_eq_true (by omega))] at h; omega)) ⟨rfl, rfl, trivial⟩ rfl
    | exact fin (bt2 hs ha (b := b) (by omega) (by rw [e, if_neg (show ¬ (decide (ty = 17)) = true by rw [show (decide (ty = 17)) = false from decide_eq_false (by omega)]; exact Bool.noConfusion)] at h; omega)) ⟨rfl, rfl, trivial⟩ rfl
theorem bt0 {b : Nat} (hb : b < 1) (h : b + bRest ty (!isSpT tx.data.toList) 0 = bitsT ty (!isSpT tx.data.toList)) : PJ ⟨111, [], fun _ => False, w⟩ ((sndN 2 (Tryz.f40.body.getD .skip)).wp Tryz.prog (bodyPost Tryz.prog Tryz.f40 (fun e w' => e = .returned (.int .u16 (bitsT ty (!isSpT tx.data.toList) : Nat)) ∧ Below w.heap.size w w'))) [(1, .pointer (some ⟨g, 0, none⟩)), (3, .int .u16 (b : Nat))] [(g, [.int .i64 ty, .int .i64 pos, .string tx, .bool fl, .int .u16 is], .c 59)] := by
  have e : bRest ty (!isSpT tx.data.toList) 0 = (if (decide (ty = 18 ∨ ty = 17)) = true then 2 ^ 0 else 0) + bRest ty (!isSpT tx.data.toList) 1 := rfl
  rw [show sndN 2 (Tryz.f40.body.getD .skip) = Code.seq (fstC (sndN 2 (Tryz.f40.body.getD .skip))) (sndN 3 (Tryz.f40.body.getD .skip)) by kernel_rfl]
  conv => arg 2; arg 2; arg 1; whnf
  repeat' ((fail_if_success (show PJ _ (Code.wp _ (sndN _ _) _) _ _)); first | first | refine cseq ?_ | refine rtext ?_ | refine ctrue rfl ?_ | refine cfalse rfl ?_ | refine cskip ?_ | refine jnil ?_ | (first | refine js rfl rfl ?_ | refine jmv rfl rfl rfl ?_ | (show Jo _ (.fieldAddr _ _ _); refine jy (yfield rfl fb42_0 rfl) rfl rfl ?_) | (show Jo _ (.load _ _); refine jy (yload (i := 0) rfl rfl rfl one3) rfl rfl ?_) | refine jas_ rfl rfl rfl ?_ | (show Jo _ (.binOp _ _ _ _ _); first | (show Jo _ (.binOp .or _ _ _ _); refine jy (yor (j := ((1 : Nat) : Int)) (c := ((b + 1 : Nat) : Int)) rfl rfl (or_pw 0 rfl hb (by decide))) rfl rfl ?_) | refine jeql rfl rfl rfl rfl (fun hq => ?_) (fun hq => ?_)) | (show Jo _ (.pick _ _ _); first | refine jy (ypick1 rfl rfl) rfl rfl ?_ | refine jy (ypick0 rfl rfl) rfl rfl ?_)))
  all_goals first
    | exact fin (bt1 hs ha (b := b + 1) (by omega) (by rw [e, if_pos (show (decide (ty = 18 ∨ ty = 17)) = true from decide_eq_true (by omega))] at h; omega)) ⟨rfl, rfl, trivial⟩ rfl
    | exact fin (bt1 hs ha (b := b) (by omega) (by rw [e, if_neg (show ¬ (decide (ty = 18 ∨ ty = 17)) = true by rw [show (decide (ty = 18 ∨ ty = 17)) = false from decide_eq_false (by omega)]; exact Bool.noConfusion)] at h; omega)) ⟨rfl, rfl, trivial⟩ rfl
theorem bits_calls (w : World) : Calls Tryz.prog 40 #[.agg [.int .i64 ty, .int .i64 pos, .string tx, .bool fl, .int .u16 is].toArray] w fun e w' => e = .returned (.int .u16 (bitsT ty (!isSpT tx.data.toList) : Nat)) ∧ Below w.heap.size w w' := by
  have hb : Tryz.f40.body = some (Code.seq (fstC (Tryz.f40.body.getD .skip)) (Code.seq (fstC (sndN 1 (Tryz.f40.body.getD .skip))) (sndN 2 (Tryz.f40.body.getD .skip)))) := by kernel_rfl
  generalize hv : [Value.int .i64 ty, .int .i64 pos, .string tx, .bool fl, .int .u16 is] = cc
  refine enter (fun _ => False) 111 [] Tryz.func40 hb rfl rfl (vs := [.agg cc.toArray]) (Has.nil _) ?_
  subst hv
  conv => arg 2; arg 2; arg 1; whnf
  conv => arg 2; arg 2; arg 2; arg 1; whnf
  repeat' ((fail_if_success (show PJ _ (Code.wp _ (sndN _ _) _) _ _)); first | first | refine cseq ?_ | refine rtext ?_ | refine jnil ?_ | (first | refine jas_ rfl rfl rfl ?_ | (show Jo _ (.box 59 _); refine jbox (c := [.int .i64 ty, .int .i64 pos, .string tx, .bool fl, .int .u16 is]) rfl rfl rfl (fun g h1 => ?_))))
  exact fin (bt0 hs ha (b := 0) (by decide) (by rw [Nat.zero_add]; exact bsum_bits _ _)) ⟨rfl, rfl, trivial⟩ rfl
end
theorem bo39 : bodyB Tryz.prog 21 = true := by kernel_rfl
theorem bo24 : bodyB Tryz.prog 19 = true := by kernel_rfl
theorem si24 : (Tryz.prog.info? 26).map (·.size) = some 1 := by kernel_rfl
theorem bu42' (a b : Int) (s : ByteArray) : Tryz.prog.built 59 [(0, .int .i64 a), (1, .int .i64 b), (2, .string s)] = some [.int .i64 a, .int .i64 b, .string s, .bool false, .int .u16 0].toArray := by kernel_rfl
def bkM (g : Nat) (s : ByteArray) (r : Row) (l : List Ti) (E : Mem) : Mem := bkB g s (r.val l.length) :: (r.mem (l.flatMap tiC) 59 ++ E)
structure BkOk (X : Cx) (r : Row) (l : List Ti) : Prop where
  ok : r.ok 0 5 l.length (l.flatMap tiC)
  may : r.may X
theorem BkOk.sub {X : Cx} {r : Row} {l : List Ti} (h : BkOk X r l) (n : Nat) {m : Mem} {w : World} (hw : Cl X m w) : BkOk (X.sub n w) r l := ⟨h.ok, Row.may_sub h.may⟩
theorem BkOk.up {X : Cx} {r : Row} {l : List Ti} {n : Nat} {m : Mem} {w : World} (hw : Cl X m w) (h : BkOk (X.sub n w) r l) : BkOk X r l := ⟨h.ok, Row.may_up hw h.may⟩
def asC (ty p : Nat) (t : ByteArray) : List Value := [.int .i64 ty, .int .i64 (p : Nat), .string t, .bool false, .int .u16 (bitsT ty (!isSpT t.data.toList) : Nat)]
theorem asC_eq (ty p : Nat) (t : ByteArray) : tiC (tiOf ty p t.data.toList) = asC ty p t := rfl
theorem asC_one (ty p : Nat) (t : ByteArray) : ∀ u ∈ asC ty p t, u.oneCell' = true := by
  intro u hu
  simp only [asC, List.mem_cons, List.not_mem_nil, or_false] at hu
  rcases hu with rfl | rfl | rfl | rfl | rfl <;> rfl
set_option maxHeartbeats 1000000 in
theorem as_calls {X : Cx} {g : Nat} (hg : X.may g) {s : ByteArray} {r : Row} {l : List Ti} {E : Mem} (hr : BkOk X r l) (hn : l.length < 1000000000) {ty : Nat} (hty : ty ≤ 18) {u t : ByteArray} (hts : t.size ≤ 4611686018427387904) (ha : ∀ c ∈ t.data.toList, c.toNat < 128) (hsz : s.size + u.size ≤ 9223372036854775807) :
    ∀ w, Cl X (bkM g s r l E) w → Calls Tryz.prog 21 #[.pointer (some ⟨g, 0, none⟩), .int .i64 (ty : Nat), .string u, .string t] w fun e w' => ∃ r' : Row, e = .returned (.tuple #[]) ∧ Cl X (bkM g (s ++ u) r' (l ++ [tiOf ty s.size t.data.toList]) E) w' ∧ BkOk X r' (l ++ [tiOf ty s.size t.data.toList]) := by
  intro w hw
  unfold bkM at hw
  refine enterC 38 hw Tryz.func21 rfl rfl (vs := [.pointer (some ⟨g, 0, none⟩), .int .i64 (ty : Nat), .string u, .string t]) rfl ?_
  replace hg := Cx.may_sub (n := 38) (w := w) hg
  replace hr := hr.sub 38 hw
  have e1 : (l ++ [tiOf ty s.size t.data.toList]).length = l.length + 1 := by simp
  have e2 : (l ++ [tiOf ty s.size t.data.toList]).flatMap tiC = l.flatMap tiC ++ asC ty s.size t := by rw [List.flatMap_append, ← asC_eq]; simp
  conv => arg 2; arg 2; whnf
  repeat' (first | first | (show PJ _ (Code.wp _ _ _) _ _; first | refine cseq ?_ | refine rtext ?_ | (show PJ _ (Code.wp _ (Code.region 2 _ true) _) _ _; refine ranyT 8 [(g8, asC ty s.size t, .c 59), bkB g s (r.val l.length)] mixed ?_)) | refine jnil ?_ | (first | (show Jo (some 13) (.load _ _); refine jy (yload (i := 0) rfl rfl rfl one9') rfl rfl ?_) | (show Jo (some 33) (.load _ _); refine jy (yload (i := 2) rfl rfl rfl one9') rfl rfl ?_) | refine jmv rfl rfl rfl ?_ | refine jy (ynil rfl) rfl rfl ?_ | (show Jo _ (.fieldAddr _ _ _); refine jy (yfield rfl (by first | exact fb29_0 | exact fb42_4) rfl) rfl rfl ?_) | (show Jo _ (.load _ _); refine jy (yloads (i := 0) rfl rfl ag42) rfl rfl ?_) | (show Jo _ (.binOp _ _ _ _ _); ((show Jo _ (.binOp .add _ _ _ _); refine jy (ysadd rfl rfl hsz rfl) rfl rfl ?_))) | (show Jo _ (.store _ _ _); first | refine jstores (i := 0) rfl rfl rfl rfl rfl si42 (.inr hT8) ?_ | refine jstore (i := 0) rfl rfl rfl rfl rfl si40 (.inr hT8) ?_ | refine jstore (i := 2) rfl rfl rfl rfl (rowv_one _ _) si24 hg ?_ | refine jstore (i := 2) rfl rfl rfl rfl rfl si9' hg ?_) | (show Jo _ (.call _); first | (show Jo _ (.call ⟨.builtin .len, _, _⟩); refine jy (ylens rfl Lw.und9) rfl rfl ?_) | (show Jo _ (.call ⟨.value (.func 40), _, _⟩); refine jcallq bo35 rfl rfl rfl (quietC fun w _ => bits_calls (by omega) ha w) ?_) | (show Jo _ (.call ⟨.builtin .append, _, _⟩); refine jappendP (k := 1) (r := r) (B := 0) (n := l.length) (xs := l.flatMap tiC) (news := asC ty s.size t) ([_, _, _] ++ E) (fun r' => [_, _, _] ++ (r'.mem (l.flatMap tiC ++ asC ty s.size t) 59 ++ E)) (perm_row [_, _, _] (r.mem (l.flatMap tiC) 59) E) (fun r' => (perm_row [_, _, _] _ _).symm) rfl rfl (src_blk (i := 0) 0 rfl (add_zero _) (fun j u hj => by rw [show 0 + j = j from Nat.zero_add j]; exact hj)) rfl (asC_one _ _ _) hr.ok (Nat.zero_le _) hr.may gr24 (by omega) (by simp only [maxLen]; omega) (by omega) rfl (fun r' hr' hmr' => ?_))) | (show Jo _ (.build _ _); refine jy (ybuild rfl (bu42' ty (s.size : Nat) t)) rfl rfl ?_) | (show Jo _ (.alloc _); refine jalloc ze42 rfl (fun g8 hT8 => ?_)) | (show Jo _ (.buildSlice _ 1 _); refine jlit1 (c := asC ty s.size t) rfl rfl rfl gr24 rfl rfl rfl (fun gl hTl => ?_))) | first | (show JT _ _ _ _ _ _ [] _ _; refine jtnil ?_) | (first | (show JTo _ (.move _); refine jty (ymove rfl) rfl rfl ?_) | (show JTo _ (.nilCheck _); refine jty (ynil rfl) rfl rfl ?_) | (show JTo _ (.fieldAddr _ _ _); refine jty (yfield rfl fb29_1 rfl) rfl rfl ?_) | (show JTo _ (.load _ _); first | refine jty (yload (i := 1) rfl rfl rfl one9') rfl rfl ?_ | refine jty (yloads (i := 0) rfl rfl ag42) rfl rfl ?_)) | first | (show PJ _ (WKeep _ _ _) _ _; refine jas (fun _ h => h.less (by repeat (first | exact List.nil_sublist _ | refine List.Sublist.cons_cons _ ?_ | refine List.Sublist.cons _ ?_))) ?_) | (show PJ _ (WIf _ _ _) _ _; refine jaw ?_) | (show PJ _ (WAnyT _ _ _ _ _ _ _ _) _ _; first | refine jaqT (n := 8) (g' := 5) (D := []) [0, 1, 2, 3, 4, 5] rfl (fun _ h => h.less (by repeat (first | exact List.nil_sublist _ | refine List.Sublist.cons_cons _ ?_))) (by kernel_rfl) (by kernel_rfl) (by kernel_rfl) (by kernel_rfl) (by kernel_rfl) rfl (fun _ d _ _ _ h => by cases d <;> exact h) rfl ?_ | refine ja1T (n := 8) (g' := 4) (D := [0, 1, 2, 3, 4, 5]) 6 rfl rfl (by kernel_rfl) (by kernel_rfl) rfl ?_ | refine ja1T (n := 8) (g' := 3) (D := [0, 1, 2, 3, 4, 5, 6]) 7 rfl rfl (by kernel_rfl) (by kernel_rfl) rfl ?_ | refine jfullT (D := [0, 1, 2, 3, 4, 5, 6, 7]) (by kernel_rfl) ?_) | (show PJ _ (WAny _ _ _ _ _ _ _) _ _; first | refine jaq (g' := 1) (D := [0, 1, 2, 3, 4, 5, 6, 7]) [8, 9] rfl (fun _ h => h.less (by repeat ((exact List.nil_sublist _)))) (by kernel_rfl) (by kernel_rfl) rfl (fun _ d _ _ _ h => by cases d <;> exact h) rfl ?_ | refine ja1 (g' := 0) (D := [0, 1, 2, 3, 4, 5, 6, 7, 8, 9]) 10 rfl rfl (by kernel_rfl) rfl ?_ | refine jadone rfl (by kernel_rfl) ?_))
  refine end0 rfl rfl (fun w' hw' => ⟨r', rfl, ?_, BkOk.up hw ⟨by rw [e1, e2]; exact hr', hmr'⟩⟩)
  unfold bkM
  rw [e1, e2]
  exact (hw.up hw').less (List.Sublist.cons _ (List.Sublist.cons _ (List.Sublist.refl _)))
end Go.Proofs.YtkehggbmpdacpabGreatDoor.Pg
namespace Go.Proofs.YtkehggbmpdacpabGreatDoor.Lex0
open Go.Proofs.YtkehggbmpdacpabGreatDoor.Dec0 Go.Proofs.YtkehggbmpdacpabGreatDoor.Txt0
def lf (md : Bool) : T := if md then lmd else lno
def b0 : Book := ⟨[], []⟩
def Book.left (b : Book) (md : Bool) : Book := b.put (if md then 10 else 8) (lf md)
def Book.right (b : Book) (md : Bool) : Book := b.put (if md then 11 else 9) (rd md)
def Book.fin (b : Book) : Book := b.put 1 []
theorem lf_two (md : Bool) : ∃ d, lf md = [123, 123, d] := by cases md <;> exact ⟨_, rfl⟩
section
variable {E : Env} {s : T} {dv : Bool} {b : Book} {c : Ctl}
theorem g_open (hT : TrA E) (u : T) {r : T} (md : Bool) (ha : asc u) (h1 : ∀ c ∈ u, c ≠ 123) (h2 : dv = true → c.chk = false → ∀ d ∈ u, d ≠ if c.org then 35 else 60) (hi : c.inl = true → inlOk E r c.name = true) (hc : [47, 42].isPrefixOf r = false) :
    Go E s dv .main b (u ++ (lf md ++ r)) c .inside ((texts b u).left md) r { c with md := md, step := 0, par := 0 } := by
  refine g_left hT u md ha (fun x hx => ?_) hi hc
  obtain ⟨d, hd⟩ := lf_two md
  have e : (if md then lmd else lno : T) ++ r = 123 :: 123 :: (d :: r) := by rw [show (if md then lmd else lno : T) = lf md from rfl, hd]; rfl
  rw [e] at hx
  exact found_of_sim hx h1 h2
theorem g_open0 (hT : TrA E) {r : T} (md : Bool) (hi : c.inl = false) (hc : [47, 42].isPrefixOf r = false) : Go E s dv .main b (lf md ++ r) c .inside (b.left md) r { c with md := md, step := 0, par := 0 } := by
  have := g_open (E := E) (s := s) (dv := dv) (b := b) (c := c) hT [] (r := r) md (by intro c hc; cases hc) (by intro c hc; cases hc) (by intro _ _ c hc; cases hc) (by intro h; rw [hi] at h; cases h) hc
  rw [texts_nil] at this
  exact this
theorem g_close (hT : TrA E) {r : T} {md : Bool} (hm : c.md = md) : Go E s dv .inside b (32 :: (rd md ++ r)) c .main ((b.pass [32]).right md) r { c with closing := 0 } :=
  Go.trans (g_sp [32] (by intro c hc; revert c; decide)) (g_right hT hm)
theorem no_cm {c : UInt8} {r : T} (h : c.toNat ≠ 47) : [47, 42].isPrefixOf (c :: r) = false := by
  show ((47 : UInt8) == c && _) = false
  rw [show ((47 : UInt8) == c) = false from by simpa using fun e : (47 : UInt8) = c => h (by rw [← e]; rfl)]
  rfl
structure QT (v : T) : Prop where
  asc : asc v
  q : ∀ c ∈ v, c ≠ 92 ∧ c ≠ 10 ∧ c ≠ 34
theorem QT.val {v : T} (h : QT v) : ValT v := ⟨h.asc, fun c hc => ⟨(h.q c hc).1, (h.q c hc).2.1⟩, fun e => by
  cases v with
  | nil => cases e
  | cons a v => cases e; exact (h.q 34 (List.mem_cons_self ..)).2.2 rfl⟩
theorem QT.esc {v : T} (h : QT v) : escT v = v := escT_plain fun c hc => (h.q c hc).2.2
def bb (b : Book) (v : T) : Book := (b.pass [32]).put 15 v
end
section
variable {E : Env} (hE : EA E) (hT : TrA E) (dv md : Bool) {w : T} (hw : NameT w)
include hE hT hw
end
end Go.Proofs.YtkehggbmpdacpabGreatDoor.Lex0
