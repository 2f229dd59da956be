/- spec.Ordered: what the reference of an ordered map tells. -/
import Derived.Test.YtmmggofbpcmliaaSpecOb
set_option linter.unusedVariables false
namespace Go.Proofs.Ytmmggofbpcmliaa.OrdS
open Go.Rx hiding bt
open Go.RowKit Go.Proofs.Ytmmggofbpcmliaa.OrdW
/-! ### the end of a round -/
def regAt (k : Nat) : Code → Option Code
  | .region i o q => bif Nat.beq i k then some (.region i o q) else none
  | .seq x y => match regAt k x with
    | some c => some c
    | none => regAt k y
  | .cond _ x y => match regAt k x with
    | some c => some c
    | none => regAt k y
  | .block _ c => regAt k c
  | .loop c => regAt k c
  | .scope c => regAt k c
  | _ => none
def regOf (fn : Func) (k : Nat) : Code := ((fn.body.bind (regAt k))).getD .skip
theorem perm_endO (H A K V Z R : Mem) : (H ++ (A ++ (K ++ (V ++ (Z ++ R))))).Perm ((H ++ (A ++ (K ++ (V ++ Z)))) ++ R) := List.Perm.of_eq (by simp only [List.append_assoc])
theorem perm_toldO (G A K V M : Mem) : (A ++ (K ++ (V ++ (G ++ M)))).Perm (G ++ (A ++ (K ++ (V ++ M)))) :=
  (List.Perm.append_left A (List.Perm.append_left K (swap3 V G M))).trans ((List.Perm.append_left A (swap3 K G _)).trans (swap3 A G _))
set_option maxHeartbeats 1000000 in
set_option maxRecDepth 100000 in
theorem tailR {X : Cx} {Q : Exit → Act → World → Prop} {v0 v5 : Value} {g7 g6 j : Nat} {r ro : Row} {l : OL} {a b rg : Value} {c6 xo : List Value} {Z : Mem} (hn : X.n = 98) (hr : r.ok 0 2 l.length (pcs l)) (hl : l.length ≤ 1000000) (hro : ro.ok 0 6 j xo) (hmo : ro.may X) (hj : j ≤ 1000000000) (ha : a.oneCell' = true) (hb : b.oneCell' = true) (hrg : rg.oneCell' = true)
    (h : ∀ (rk rv ro' : Row) (gl : Nat), rk.ok 0 1 l.length (strs (l.map Prod.fst)) → rv.ok 0 1 l.length (ints (l.map Prod.snd)) → ro'.ok 0 6 (j + 1) (xo ++ [a, b, rg, rk.val l.length, rv.val l.length, .int .i64 l.length]) → ro'.may X →
      PJ X (Q .normal) [(0, v0), (3, r.val l.length), (4, ro'.val (j + 1)), (5, v5)] ((gl, [a, b, rg, rk.val l.length, rv.val l.length, .int .i64 l.length], 50) :: (g7, [a, b, rg, .slice none 0 0, .slice none 0 0, .int .i64 0], 50) :: (g6, c6, 53) :: (r.mem (pcs l) 89 ++ (rk.mem (strs (l.map Prod.fst)) 9 ++ (rv.mem (ints (l.map Prod.snd)) 3 ++ (Z ++ ro'.mem (xo ++ [a, b, rg, rk.val l.length, rv.val l.length, .int .i64 l.length]) 50)))))) :
    PJ X ((regOf Try.f29 25).wp Try.prog Q) [(0, v0), (3, r.val l.length), (4, ro.val j), (5, v5), (7, .pointer (some ⟨g7, 0, none⟩))] ((g7, [a, b, rg, .slice none 0 0, .slice none 0 0, .int .i64 0], 50) :: (g6, c6, 53) :: (r.mem (pcs l) 89 ++ (Z ++ ro.mem xo 50))) := by
  obtain ⟨n, D, S, w0⟩ := X
  obtain rfl : n = 98 := hn
  conv => arg 2; arg 2; whnf
  have hone : ∀ rk rv : Row, ∀ u ∈ [a, b, rg, rk.val l.length, rv.val l.length, .int .i64 l.length], u.oneCell' = true := by
    intro rk rv u hu
    simp only [List.mem_cons, List.not_mem_nil, or_false] at hu
    rcases hu with rfl | rfl | rfl | rfl | rfl | rfl <;> first | assumption | exact row_one _ _ | rfl
  repeat' (first | (show PJ _ (Code.wp _ _ _) _ _; first | refine cseq ?_ | refine rtext ?_ | refine ctrue rfl ?_ | refine cfalse rfl ?_ | refine cskip ?_ | refine cblk ?_ | refine cret ?_ | refine cexit ?_ | refine csplit' rfl (fun hq => ?_) (fun hq => ?_)  | refine rquiet mixed (by kernel_rfl) ?_) | (show PJ _ (Exit.then _ _ _) _ _; first | refine tnorm ?_ | refine tret ?_ | refine texit ?_) | (show PJ _ (Exit.inBlock _ _ _) _ _; first | refine bnorm ?_ | refine bret ?_ | refine bexit ?_ | refine bother rfl ?_) | (show PJ _ (wpList _ _ _ _) _ _; refine jlist ?_) | (show J _ _ _ _ _ _ [] _ _; refine jnil ?_) | (show J _ _ _ _ _ _ (_ :: _) _ _; first  | refine js rfl rfl ?_ | (show J _ _ _ _ _ _ (⟨_, .move _, _, _, _, _⟩ :: _) _ _; refine jy (ymove rfl) rfl rfl ?_) | (show J _ _ _ _ _ _ (⟨_, .nilCheck _, _, _, _, _⟩ :: _) _ _; refine jy (ynil rfl) rfl rfl ?_) | (show J _ _ _ _ _ _ (⟨_, .fieldAddr _ _ _, _, _, _, _⟩ :: _) _ _; refine jy (yfield rfl (by first | exact fb50_3 | exact fb50_4 | exact fb50_5 | exact fb50_0 | exact fb50_1 | exact fb50_2 | exact fb53_0 | exact fb53_1 | exact fb53_2 | exact fb89_0 | exact fb89_1) rfl) rfl rfl ?_) | (show J _ _ _ _ _ _ (⟨_, .load _ _, _, _, _, _⟩ :: _) _ _; first | refine jy (yload (i := 0) rfl rfl rfl (by first | exact one3 | exact one9 | exact one28 | exact one48)) rfl rfl ?_ | refine jy (yload (i := 1) rfl rfl rfl (by first | exact one3 | exact one9 | exact one28 | exact one48)) rfl rfl ?_ | refine jy (yloads (i := 0) rfl rfl (by first | exact ag50 | exact ag53)) rfl rfl ?_ ) | (show J _ _ _ _ _ _ (⟨_, .assign _, _, _, _, _⟩ :: _) _ _; refine jy (yassign rfl) rfl rfl ?_) | (show J _ _ _ _ _ _ (⟨_, .binOp _ _ _ _ _, _, _, _, _⟩ :: _) _ _; first  | refine jy (yadd rfl rfl (i64_in (by omega) (by omega))) rfl rfl ?_ | refine jy (ylss rfl rfl (by first | exact decide_eq_true (by omega) | exact decide_eq_false (by omega))) rfl rfl ?_ | refine jlss rfl rfl rfl rfl (fun hq => ?_) (fun hq => ?_) | refine jy (yeql rfl rfl (by first | exact decide_eq_true (by omega) | exact decide_eq_false (by omega))) rfl rfl ?_ | refine jeql rfl rfl rfl rfl (fun hq => ?_) (fun hq => ?_) | refine jy (ygeq rfl rfl (by first | exact decide_eq_true (by omega) | exact decide_eq_false (by omega))) rfl rfl ?_ | refine jgeq rfl rfl rfl rfl (fun hq => ?_) (fun hq => ?_)) | (show J _ _ _ _ _ _ (⟨_, .store _ _ _, _, _, _, _⟩ :: _) _ _; first | refine jstore (i := 0) rfl rfl rfl rfl rfl (by first | exact si28 | exact si3 | exact si4 | exact si48 | exact si53) (by first | exact hS | exact .inr hT) ?_ | refine jstore (i := 1) rfl rfl rfl rfl rfl (by first | exact si28 | exact si3 | exact si4 | exact si48 | exact si53) (by first | exact hS | exact .inr hT) ?_ | refine jstores (i := 0) rfl rfl rfl rfl rfl (by first | exact si28 | exact si3 | exact si4 | exact si48 | exact si53) (.inr hT) ?_ ) | (show J _ _ _ _ _ _ (⟨_, .pick _ _ _, _, _, _, _⟩ :: _) _ _; first | refine jy (ypick1 rfl rfl) rfl rfl ?_ | refine jy (ypick0 rfl rfl) rfl rfl ?_) | (show J _ _ _ _ _ _ (⟨_, .unOp _ _ _, _, _, _, _⟩ :: _) _ _; refine jy (ynot rfl rfl) rfl rfl ?_) | (show J _ _ _ _ _ _ (⟨_, .index _ _ _, _, _, _, _⟩ :: _) _ _; refine jy (yidx (c := bt _ _) rfl rfl und9 (by omega) (by omega) rfl) rfl rfl ?_) | (show J _ _ _ _ _ _ (⟨_, .slice _ _ _ _ _, _, _, _, _⟩ :: _) _ _; refine jy (yslice rfl rfl rfl und9 (by omega) (by omega) (by omega) rfl) rfl rfl ?_) | (show J _ _ _ _ _ _ (⟨_, .call _, _, _, _, _⟩ :: _) _ _; first | (show J _ _ _ _ _ _ (⟨_, .call ⟨.value (.func 61), _, _⟩, _, _, _, _⟩ :: _) _ _; refine jcall (ι := Row × Row) (v := fun q => .agg [a, b, rg, q.1.val l.length, q.2.val l.length, .int .i64 l.length].toArray) (m' := fun q => (g7, [a, b, rg, .slice none 0 0, .slice none 0 0, .int .i64 0], 50) :: (g6, c6, 53) :: (r.mem (pcs l) 89 ++ (q.1.mem (strs (l.map Prod.fst)) 9 ++ (q.2.mem (ints (l.map Prod.snd)) 3 ++ (Z ++ ro.mem xo 50))))) (fun q => q.1.ok 0 1 l.length (strs (l.map Prod.fst)) ∧ q.2.ok 0 1 l.length (ints (l.map Prod.snd))) bo61 rfl rfl rfl (fun w' hw' => (otold_calls a b rg ha hb hrg hr hl w' (hw'.perm (swap3 [_, _] (r.mem (pcs l) 89) _))).mono fun e w'' h => by obtain ⟨rk, rv, h1, h2, h3, h4, _⟩ := h; exact ⟨(rk, rv), h1, h2.perm (perm_toldO [_, _] (r.mem (pcs l) 89) _ _ _), h3, h4⟩) (fun q hq => ?_); obtain ⟨rk, rv⟩ := q; dsimp only at hq ⊢) | (show J _ _ _ _ _ _ (⟨_, .call ⟨.builtin .append, #[.tmp _, .tmp _], _⟩, _, _, _, _⟩ :: _) _ _; refine jappendP (k := 1) (news := [a, b, rg, rk.val l.length, rv.val l.length, .int .i64 l.length]) ([_, _, _] ++ (r.mem (pcs l) 89 ++ (rk.mem (strs (l.map Prod.fst)) 9 ++ (rv.mem (ints (l.map Prod.snd)) 3 ++ Z)))) (fun ro' => [_, _, _] ++ (r.mem (pcs l) 89 ++ (rk.mem (strs (l.map Prod.fst)) 9 ++ (rv.mem (ints (l.map Prod.snd)) 3 ++ (Z ++ ro'.mem (xo ++ [a, b, rg, rk.val l.length, rv.val l.length, .int .i64 l.length]) 50))))) (perm_endO [_, _, _] (r.mem (pcs l) 89) (rk.mem (strs (l.map Prod.fst)) 9) (rv.mem (ints (l.map Prod.snd)) 3) Z (ro.mem xo 50)) (fun ro' => (perm_endO [_, _, _] (r.mem (pcs l) 89) (rk.mem (strs (l.map Prod.fst)) 9) (rv.mem (ints (l.map Prod.snd)) 3) Z _).symm) rfl rfl (src_blk (i := 0) 0 rfl (add_zero _) (fun j u hj => by rw [show 0 + j = j from Nat.zero_add j]; exact hj)) rfl (hone rk rv) hro (Nat.zero_le _) hmo gr46 (by omega) (by simp only [maxLen]; omega) (by omega) rfl (fun ro' hro' hmo' => ?_))) | (show J _ _ _ _ _ _ (⟨_, .extract _ _, _, _, _, _⟩ :: _) _ _; refine jy (yextractL rfl rfl) rfl rfl ?_) | (show J _ _ _ _ _ _ (⟨_, .buildSlice 46 1 _, _, _, _, _⟩ :: _) _ _; refine jlit1 (c := [a, b, rg, rk.val l.length, rv.val l.length, .int .i64 l.length]) rfl rfl rfl gr46 rfl rfl rfl (fun gl hT => ?_)) | (show J _ _ _ _ _ _ (⟨_, .build _ _, _, _, _, _⟩ :: _) _ _; refine jy (ybuild rfl (by first | exact bu0 | exact bu3 _)) rfl rfl ?_)))
  exact finS (h rk rv ro' gl hq.1 hq.2 hro' hmo') ⟨rfl, rfl, rfl, rfl, trivial⟩ (List.Sublist.refl _)
/-! ### the rounds -/
def SP (r ro : Row) (b : Nat) : Prop := r.blk b ∨ ro.blk b
structure PP (w00 : World) (steps : List OStep) (n j : Nat) (r ro : Row) (ts : List (List Value)) (w : World) : Prop where
  le : j ≤ steps.length
  num : n = steps.length - j
  rok : r.ok 0 2 (oend [] (steps.take j)).length (pcs (oend [] (steps.take j)))
  rook : ro.ok 0 6 j ts.flatten
  tl : ts.length = j
  below : Below w00.heap.size w00 w
  old : ∀ b, SP r ro b → w00.heap.size ≤ b
  told : ∀ (i : Nat) cs t, ts[i]? = some cs → (orun [] (steps.take j))[i]? = some t → TCells (SP r ro) w cs t
theorem closeP {w00 w : World} {steps : List OStep} {j gl g7 g6 : Nat} {r ro r' ro' rv rk rr : Row} {ts : List (List Value)} {s : OStep} {c7 c6 cl : List Value} {Z0 : Mem} {L : OL} {a : Int} {bb : Bool} {rl : List ByteArray} (hp : PP w00 steps (steps.length - j) j r ro ts w) (hs : steps[j]? = some s)
    (hL : onext (oend [] (steps.take j)) s = L) (hA : oans (oend [] (steps.take j)) s = (a, bb, rl)) (hr' : r'.ok 0 2 L.length (pcs L)) (hmr : r'.may ⟨98, [], SP r ro, w⟩) (hk : rk.ok 0 1 L.length (strs (L.map Prod.fst))) (hv : rv.ok 0 1 L.length (ints (L.map Prod.snd)))
    (hrr : rr.ok 0 1 rl.length (strs rl)) (hro : ro'.ok 0 6 (j + 1) (ts.flatten ++ [.int .i64 a, .bool bb, rr.val rl.length, rk.val L.length, rv.val L.length, .int .i64 L.length])) (hmo : ro'.may ⟨98, [], SP r ro, w⟩) {w' : World}
    (hw : Cl ⟨98, [], SP r ro, w⟩ ((gl, cl, 50) :: (g7, c7, 50) :: (g6, c6, 53) :: (r'.mem (pcs L) 89 ++ (rk.mem (strs (L.map Prod.fst)) 9 ++ (rv.mem (ints (L.map Prod.snd)) 3 ++ ((rr.mem (strs rl) 9 ++ Z0) ++ ro'.mem (ts.flatten ++ [.int .i64 a, .bool bb, rr.val rl.length, rk.val L.length, rv.val L.length, .int .i64 L.length]) 50))))) w') :
    Has (r'.mem (pcs (oend [] (steps.take (j + 1)))) 89 ++ ro'.mem (ts ++ [[.int .i64 a, .bool bb, rr.val rl.length, rk.val L.length, rv.val L.length, .int .i64 L.length]]).flatten 50) w' ∧ PP w00 steps (steps.length - (j + 1)) (j + 1) r' ro' (ts ++ [[.int .i64 a, .bool bb, rr.val rl.length, rk.val L.length, rv.val L.length, .int .i64 L.length]]) w' ∧ L.length = (oend [] (steps.take (j + 1))).length := by
  generalize hcs : [Value.int .i64 a, .bool bb, rr.val rl.length, rk.val L.length, rv.val L.length, .int .i64 L.length] = cs at *
  have hj : j < steps.length := (List.getElem?_eq_some_iff.1 hs).1
  have ht : steps.take (j + 1) = steps.take j ++ [s] := take_one hs
  have he : oend [] (steps.take (j + 1)) = L := by rw [← hL, ht, oend, List.foldl_append]; rfl
  have hf : (ts ++ [cs]).flatten = ts.flatten ++ cs := by simp
  have hnd : (okeys L).Nodup := by rw [← he]; exact oend_nodup _ List.nodup_nil
  rw [he, hf]
  have hmay : ∀ b, SP r' ro' b → (⟨98, [], SP r ro, w⟩ : Cx).may b := by
    rintro b (hb | hb)
    · exact row_may hmr b hb
    · exact row_may hmo b hb
  have a1 := hw.1.apart (a := [(gl, cl, 50), (g7, c7, 50), (g6, c6, 53)] ++ r'.mem (pcs L) 89) (b := rk.mem (strs (L.map Prod.fst)) 9 ++ (rv.mem (ints (L.map Prod.snd)) 3 ++ ((rr.mem (strs rl) 9 ++ Z0) ++ ro'.mem (ts.flatten ++ cs) 50))) (List.Perm.of_eq (by simp [List.append_assoc]))
  have a2 := hw.1.apart (a := [(gl, cl, 50), (g7, c7, 50), (g6, c6, 53)] ++ (r'.mem (pcs L) 89 ++ (rk.mem (strs (L.map Prod.fst)) 9 ++ (rv.mem (ints (L.map Prod.snd)) 3 ++ (rr.mem (strs rl) 9 ++ Z0))))) (b := ro'.mem (ts.flatten ++ cs) 50) (List.Perm.of_eq (by simp [List.append_assoc]))
  have free : ∀ (x : Row) (xs : List Value) (e : TypeId), (∀ y ∈ x.mem xs e, y ∈ rk.mem (strs (L.map Prod.fst)) 9 ++ (rv.mem (ints (L.map Prod.snd)) 3 ++ ((rr.mem (strs rl) 9 ++ Z0) ++ ro'.mem (ts.flatten ++ cs) 50))) → (∀ y ∈ x.mem xs e, y ∈ [(gl, cl, (50 : Bk)), (g7, c7, 50), (g6, c6, 53)] ++ (r'.mem (pcs L) 89 ++ (rk.mem (strs (L.map Prod.fst)) 9 ++ (rv.mem (ints (L.map Prod.snd)) 3 ++ (rr.mem (strs rl) 9 ++ Z0))))) → ∀ b, x.blk b → ¬ SP r' ro' b := by
    rintro x xs e h1 h2 b hb (hc | hc)
    · obtain ⟨y, hy, hyb⟩ := Row.blk_mem hb xs e
      obtain ⟨z, hz, hzb⟩ := Row.blk_mem hc (pcs L) 89
      exact a1 z (by simp [hz]) y (h1 y hy) (hzb.trans hyb.symm)
    · obtain ⟨y, hy, hyb⟩ := Row.blk_mem hb xs e
      obtain ⟨z, hz, hzb⟩ := Row.blk_mem hc (ts.flatten ++ cs) 50
      exact a2 y (h2 y hy) z hz (hyb.trans hzb.symm)
  refine ⟨hw.1.sub ?_, ⟨by omega, rfl, by rw [he]; exact hr', by rw [hf]; exact hro, by simp [hp.tl], ?_, ?_, ?_⟩, rfl⟩
  · refine List.Sublist.cons _ (List.Sublist.cons _ (List.Sublist.cons _ (List.Sublist.append (List.Sublist.refl _) ?_)))
    rw [← List.append_assoc, ← List.append_assoc]
    exact List.sublist_append_right _ _
  · refine hp.below.trans (hw.2.below (fun k hk hc => ?_) hp.below.size)
    have := hp.old k hc
    omega
  · intro b hb
    rcases hmay b hb with h | h
    · exact hp.old b h
    · have := hp.below.size
      have h : w.heap.size ≤ b := h
      omega
  · intro i c t hc hot
    by_cases hi : i < j
    · have h1 : ts[i]? = some c := by rw [List.getElem?_append_left (by rw [hp.tl]; exact hi)] at hc; exact hc
      have h2 : (orun [] (steps.take j))[i]? = some t := by
        rw [ht, orun_snoc, List.getElem?_append_left (by rw [orun_len, List.length_take]; omega)] at hot
        exact hot
      refine (hp.told i c t h1 h2).evo hw.2 (fun b hb hc => ?_)
      rcases hmay b hc with h | h
      · exact h
      · have h : w.heap.size ≤ b := h
        omega
    · have hij : i = j := by
        have := (List.getElem?_eq_some_iff.1 hc).1
        simp [hp.tl] at this
        omega
      subst hij
      have h1 : c = cs := by
        rw [List.getElem?_append_right (by rw [hp.tl]; exact Nat.le_refl _), hp.tl, Nat.sub_self] at hc
        exact (Option.some.inj hc).symm
      have h2 : t = otold (oend [] (steps.take i)) s := by
        rw [ht, orun_snoc, List.getElem?_append_right (by rw [orun_len, List.length_take]; omega), orun_len, List.length_take, show i - min i steps.length = 0 by omega] at hot
        exact (Option.some.inj hot).symm
      subst h1
      subst h2
      have hov : L.map (fun p => oval p.1 L) = L.map Prod.snd := List.map_congr_left (fun p hp => oval_at hnd p hp)
      have hto : otold (oend [] (steps.take i)) s = ⟨a, bb, rl, L.map Prod.fst, L.map Prod.snd, L.length⟩ := by unfold otold; rw [hL, hA, hov]
      rw [hto]
      refine ⟨rr.val rl.length, rk.val L.length, rv.val L.length, hcs.symm, ?_, ?_, ?_, Row.capOk hk⟩
      · exact RowAt.of (e := 9) hw.1 (fun x hx => by simp [hx]) hrr (free rr (strs rl) 9 (fun x hx => by simp [hx]) (fun x hx => by simp [hx]))
      · dsimp only
        rw [List.length_map]
        exact RowAt.of (e := 9) hw.1 (fun x hx => by simp [hx]) hk (free rk (strs (L.map Prod.fst)) 9 (fun x hx => by simp [hx]) (fun x hx => by simp [hx]))
      · dsimp only
        rw [List.length_map]
        exact RowAt.of (e := 3) hw.1 (fun x hx => by simp [hx]) hv (free rv (ints (L.map Prod.snd)) 3 (fun x hx => by simp [hx]) (fun x hx => by simp [hx]))
end Go.Proofs.Ytmmggofbpcmliaa.OrdS
