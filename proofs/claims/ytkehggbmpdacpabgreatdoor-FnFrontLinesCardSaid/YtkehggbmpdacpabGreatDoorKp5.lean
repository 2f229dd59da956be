/- The page laws: texts that all of them use, joined (part 5): Pg14, Pg15, Pg16, Pg17, Pg18, Pg19, Pg20. -/
import Derived.Test.YtkehggbmpdacpabGreatDoorKp4
set_option maxRecDepth 100000
set_option linter.unusedVariables false
set_option linter.unusedSimpArgs false
set_option linter.unusedSectionVars false
namespace Go.Proofs.YtkehggbmpdacpabGreatDoor.Pg
open Go.Rx hiding bt
open Go.RowKit Go.Proofs.YtkehggbmpdacpabGreatDoor.Dec0 Go.Proofs.YtkehggbmpdacpabGreatDoor.Lex0
theorem bo97 : bodyB Tryz.prog 77 = true := by kernel_rfl
theorem jsonL_other {c : UInt8} {r : T} (n : Nat) (q : Bool) (lv : Nat) (h1 : c ≠ 92) (h2 : c ≠ 123) (h3 : c ≠ 125) (h4 : c ≠ 34) : jsonL (c :: r) n q lv = jsonL r (n + 1) q lv := by
  rw [jsonL]
  · rw [if_neg h2, if_neg h3, if_neg h4]
  · rintro d r' h _; exact h1 h
theorem jsonL_open {r : T} (n : Nat) (q : Bool) (lv : Nat) : jsonL (123 :: r) n q lv = jsonL r (n + 1) q (if q then lv else lv + 1) := by
  rw [jsonL]
  · rw [if_pos rfl]
  · rintro d r' h; cases h
theorem jsonL_shut {r : T} (n : Nat) (q : Bool) (lv : Nat) : jsonL (125 :: r) n q lv = if q then jsonL r (n + 1) q lv else if lv ≤ 1 then some (n + 1) else jsonL r (n + 1) q (lv - 1) := by
  rw [jsonL]
  · rw [if_neg (by decide), if_pos rfl]
  · rintro d r' h; cases h
theorem jsonL_quote {r : T} (n : Nat) (q : Bool) (lv : Nat) : jsonL (34 :: r) n q lv = jsonL r (n + 1) (!q) lv := by
  rw [jsonL]
  · rw [if_neg (by decide), if_neg (by decide), if_pos rfl]
  · rintro d r' h; cases h
theorem jsonL_esc {d : UInt8} {r : T} (n : Nat) (q : Bool) (lv : Nat) : jsonL (92 :: d :: r) n q lv = jsonL r (n + 2) q lv := by rw [jsonL]
theorem jsonL_esc0 (n : Nat) (q : Bool) (lv : Nat) : jsonL [92] n q lv = none := by
  rw [jsonL]
  · rw [if_neg (by decide), if_neg (by decide), if_neg (by decide), jsonL]
  · rintro d r' _ h; cases h
theorem jsonL_drop : ∀ (k : Nat) (l : T) (n : Nat) (q : Bool) (lv : Nat), k ≤ l.length → (∀ j, j < k → 128 ≤ gb l j) → jsonL l n q lv = jsonL (l.drop k) (n + k) q lv := by
  intro k
  induction k with
  | zero => intro l n q lv _ _; simp
  | succ k ih =>
    intro l n q lv hl hb
    cases l with
    | nil => simp at hl
    | cons c r =>
      have h0 : 128 ≤ c.toNat := hb 0 (Nat.succ_pos k)
      have hne : ∀ k : UInt8, k.toNat < 128 → c ≠ k := fun k hk e => by subst e; omega
      rw [jsonL_other n q lv (hne 92 (by decide)) (hne 123 (by decide)) (hne 125 (by decide)) (hne 34 (by decide)), ih r (n + 1) q lv (by simpa using hl) (fun j hj => hb (j + 1) (by omega)), List.drop_succ_cons]
      congr 1
      omega
theorem rn_head {l : T} {k : UInt8} (hk : k.toNat < 128) (h : rn l = (k.toNat : Int)) : ∃ r, l = k :: r ∧ wd l = 1 := by
  cases l with
  | nil => have h1 : (-1 : Int) = k.toNat := h; omega
  | cons c r =>
    have : c = k := (rn_lit c k r hk).mp h
    subst this
    exact ⟨r, rfl, wd_ascii hk⟩
theorem jsonL_rune {l : T} (n : Nat) (q : Bool) (lv : Nat) (hl : l ≠ []) (h1 : rn l ≠ 92) (h2 : rn l ≠ 123) (h3 : rn l ≠ 125) (h4 : rn l ≠ 34) : jsonL l n q lv = jsonL (l.drop (wd l)) (n + wd l) q lv := by
  cases l with
  | nil => exact absurd rfl hl
  | cons c r =>
    rcases rn_cons c r with ⟨ha, hb, hc⟩ | ⟨ha, hb⟩
    · rw [hc]
      exact jsonL_other n q lv (fun e => h1 (by subst e; exact hb)) (fun e => h2 (by subst e; exact hb)) (fun e => h3 (by subst e; exact hb)) (fun e => h4 (by subst e; exact hb))
    · have hw : wd (c :: r) = (dec (c :: r)).2 := by unfold wd; rw [if_neg (by simp)]
      have hd := dec_wide (l := c :: r) ha
      rw [hw]
      exact jsonL_drop _ _ n q lv hd.2.1 hd.2.2
theorem jsonL_back {r : T} (n : Nat) (q : Bool) (lv : Nat) : jsonL (92 :: r) n q lv = jsonL (r.drop (wd r)) (n + 1 + wd r) q lv := by
  cases r with
  | nil => rw [jsonL_esc0]; show _ = jsonL [] _ _ _; rw [jsonL]
  | cons d r =>
    rw [jsonL_esc]
    rcases rn_cons d r with ⟨ha, hb, hc⟩ | ⟨ha, hb⟩
    · rw [hc]; rfl
    · have hw : wd (d :: r) = (dec (d :: r)).2 := by unfold wd; rw [if_neg (by simp)]
      have hd := dec_wide (l := d :: r) ha
      have h1 := wd_pos (l := d :: r) (by simp)
      rw [hw] at h1 ⊢
      obtain ⟨k, hk⟩ : ∃ k, (dec (d :: r)).2 = k + 1 := ⟨(dec (d :: r)).2 - 1, by omega⟩
      rw [hk, List.drop_succ_cons, jsonL_drop k r (n + 2) q lv (by have := hd.2.1; rw [hk] at this; simpa using this) (fun j hj => hd.2.2 (j + 1) (by omega))]
      congr 1
      omega
theorem crlf_le (l : T) : crlf l ≤ l.length := by
  unfold crlf
  split <;> simp
set_option maxHeartbeats 2000000 in
theorem json_calls {X : Cx} {H : Hd} {F G : Mem} (hX : Ok X H) {x : Lx} {q : RS} (hS : StOk X H x q G) (hf : x.items.length < 999999999000) (hj : ∃ r, H.s.drop x.pos = 123 :: r) (st : Value) (gd : Nat) : ∀ w, Cl X (cM H (mv 1 x) st 1 gd q F G) w → Calls Tryz.prog 77 #[pL H] w (SR X H st gd F (json H.s x)) := by
  intro w hw
  refine enterC 45 hw Tryz.func77 rfl rfl (vs := [pL H]) rfl ?_
  replace hX := hX.sub hw 45
  replace hS := hS.sub 45 w
  have hbig := hX.big
  have hs0 := hS.s
  have hp1 : x.pos + 1 ≤ H.s.length := by
    obtain ⟨r, hr⟩ := hj
    have := congrArg List.length hr
    rw [List.length_drop] at this
    simp at this
    omega
  conv => arg 2; arg 2; whnf
  repeat' (first | refine cseq ?_ | refine rtext ?_ | refine cblk ?_ | refine jnil ?_ | (first | refine jmv rfl rfl rfl ?_ | refine jas_ rfl rfl rfl ?_ | (show Jo _ (.call _); ((show Jo (some 7) (.call _); refine jcall0 (v := .tuple #[]) (cM H x st 1 gd q F G) bo117 rfl rfl rfl (back_st hX x st _ _ 1 hp1) ?_)))))
  refine fin (f' := [(0, pL H), (3, .bool false), (4, .int .i64 (0 : Nat))]) (m' := cM H { x with pos := x.pos } st 1 gd q F G)
    (cloop (ι := Nat × Nat × Bool × Nat) (fun u => [(0, pL H), (3, .bool u.2.2.1), (4, .int .i64 (u.2.2.2 : Nat))]) (fun u => cM H { x with pos := u.1 } st u.2.1 gd q F G) (fun n u => n = H.s.length - u.1 ∧ u.1 ≤ H.s.length ∧ x.pos ≤ u.1 ∧ (u.1 = x.pos ∧ u.2.2.2 = 0 ∧ u.2.2.1 = false ∨ 1 ≤ u.2.2.2) ∧ u.2.2.2 ≤ u.1 ∧ jsonL (H.s.drop x.pos) 0 false 0 = jsonL (H.s.drop u.1) (u.1 - x.pos) u.2.2.1 u.2.2.2) (H.s.length - x.pos) (x.pos, 1, false, 0) ⟨rfl, hS.p, Nat.le_refl _, .inl ⟨rfl, rfl, rfl⟩, Nat.zero_le _, by rw [Nat.sub_self]⟩ ?_) ⟨rfl, rfl, rfl, trivial⟩ rfl
  rintro n ⟨p, W, b, lv⟩ ⟨rfl, hp, hxp, hor, hlv, hjs⟩ K hK
  dsimp only at hp hxp hor hlv hjs ⊢
  have hwl := wd_rest hp
  have hSq : StOk (X.sub 45 w) H (mv (wd (H.s.drop p)) { x with pos := p }) q G := hS.mv rfl hwl (by (try dsimp only [lsOf, mv, ign, emitL]); omega)
  have hn1 : rn (H.s.drop p) = -1 ∨ H.s.drop p ≠ [] := by
    rcases Decidable.em (H.s.drop p = []) with h | h
    · exact .inl (rn_neg.2 h)
    · exact .inr h
  rcases hn1 with hn1 | hne
  · have hnil := rn_neg.1 hn1
    have hpe : p = H.s.length := by have := congrArg List.length hnil; rw [List.length_drop] at this; simp at this; omega
    have hw0 : wd (H.s.drop p) = 0 := by rw [hnil]; rfl
    have e1 : json H.s x = (errI { x with pos := p }, none) := by
      unfold json
      rw [hjs, hnil, jsonL]
      rw [hpe]
      rfl
    rw [e1]
    repeat' (first | refine cseq ?_ | refine rtext ?_ | refine ctrue rfl ?_ | refine cblk ?_ | refine cret ?_ | refine tret ?_ | refine bret ?_ | refine jnil ?_ | (first | refine jmv rfl rfl rfl ?_ | refine jas_ rfl rfl rfl ?_ | (show Jo _ (.binOp _ _ _ _ _); refine jy (yeql rfl rfl (by (exact decide_eq_true (by omega)))) rfl rfl ?_) | (show Jo _ (.call _); first | (show Jo (some 9) (.call _); refine jcall0 (v := .int .i32 (rn (H.s.drop p))) (cM H (mv (wd (H.s.drop p)) { x with pos := p }) st (wd (H.s.drop p)) gd q F G) bo93 rfl rfl rfl (next_st hX { x with pos := p } st W _ _ hp) ?_) | (show Jo (some 14) (.call _); refine jcall (ι := RS) (v := fun _ => .nilFunc) (m' := fun q' => cM H (errI (mv (wd (H.s.drop p)) { x with pos := p })) st (wd (H.s.drop p)) gd q' F G) (fun q' => StOk _ H (errI (mv (wd (H.s.drop p)) { x with pos := p })) q' G) bo112 rfl rfl rfl (err_st hX hSq st _ _ (by (try dsimp only [lsOf, mv, ign, emitL]); omega) _ _) (fun q1 hS1 => ?_)))))
    refine ret1 rfl rfl rfl (fun w' hw' => ⟨q1, 0, G, rfl, ?_, ?_⟩)
    · have h1 := hw.up hw'
      rw [hw0] at h1
      exact h1
    · have h2 := StOk.up hw hS1
      rw [hw0] at h2
      exact h2
  have hwp := wd_pos hne
  have hge := rn_ge hne
  have hlv1 : rn (H.s.drop p) ≠ 123 → 1 ≤ lv := fun h => by
    rcases hor with ⟨hpx, _, _⟩ | h1
    · obtain ⟨r, hr⟩ := hj
      rw [hpx, hr] at h
      exact absurd (rn_ascii (c := 123) (r := r) (by decide)) h
    · exact h1
  have hdw : (H.s.drop p).drop (wd (H.s.drop p)) = H.s.drop (p + wd (H.s.drop p)) := drop_wd _ _
  rcases Decidable.em (rn (H.s.drop p) = 123) with h123 | h123
  · obtain ⟨r, hr, hw1⟩ := rn_head (k := 123) (by decide) h123
    have hjo : jsonL (H.s.drop p) (p - x.pos) b lv = jsonL (H.s.drop (p + wd (H.s.drop p))) (p - x.pos + wd (H.s.drop p)) b (if b then lv else lv + 1) := by
      rw [← hdw, hw1, hr, jsonL_open]
      rfl
    cases hb : b
    · rw [hb, if_neg (by simp)] at hjo
      rw [hb] at hjs
      repeat' (first | refine cseq ?_ | refine rtext ?_ | refine ctrue rfl ?_ | refine cfalse rfl ?_ | refine cskip ?_ | refine cblk ?_ | refine tnorm ?_ | refine bnorm ?_ | refine jnil ?_ | (first | refine jmv rfl rfl rfl ?_ | refine jas_ rfl rfl rfl ?_ | (show Jo _ (.binOp _ _ _ _ _); first | (show Jo _ (.binOp .add _ _ _ _); refine jy (yadd (c := ((lv + 1 : Nat) : Int)) rfl rfl ((i64_in (by (try dsimp only [lsOf, mv, ign, emitL]); omega) (by (try dsimp only [lsOf, mv, ign, emitL]); omega)).trans (by (try dsimp only [lsOf, mv, ign, emitL]); omega))) rfl rfl ?_) | refine jy (yeql rfl rfl (by first | exact decide_eq_true (by omega) | exact decide_eq_false (by omega))) rfl rfl ?_) | refine jy (ynot rfl rfl) rfl rfl ?_ | (show Jo _ (.call _); ((show Jo (some 9) (.call _); refine jcall0 (v := .int .i32 (rn (H.s.drop p))) (cM H (mv (wd (H.s.drop p)) { x with pos := p }) st (wd (H.s.drop p)) gd q F G) bo93 rfl rfl rfl (next_st hX { x with pos := p } st W _ _ hp) ?_)))))
      exact fin (hK (H.s.length - (p + wd (H.s.drop p))) (p + wd (H.s.drop p), wd (H.s.drop p), false, lv + 1) (by have := wd_pos hne; dsimp only; omega) ⟨rfl, hwl, by dsimp only; omega, .inr (by dsimp only; omega), by have := wd_pos hne; dsimp only; omega, by dsimp only; rw [hjs, hjo, show p + wd (H.s.drop p) - x.pos = p - x.pos + wd (H.s.drop p) by omega]⟩) ⟨rfl, rfl, rfl, trivial⟩ rfl
    · rw [hb, if_pos rfl] at hjo
      rw [hb] at hjs hor
      have hl1 : 1 ≤ lv := by rcases hor with ⟨_, _, h⟩ | h; exact absurd h (by decide); exact h
      repeat' (first | refine cseq ?_ | refine rtext ?_ | refine ctrue rfl ?_ | refine cfalse rfl ?_ | refine cskip ?_ | refine cblk ?_ | refine tnorm ?_ | refine bnorm ?_ | refine jnil ?_ | (first | refine jmv rfl rfl rfl ?_ | refine jas_ rfl rfl rfl ?_ | (show Jo _ (.binOp _ _ _ _ _); (refine jy (yeql rfl rfl (by first | exact decide_eq_true (by omega) | exact decide_eq_false (by omega))) rfl rfl ?_)) | refine jy (ynot rfl rfl) rfl rfl ?_ | (show Jo _ (.call _); ((show Jo (some 9) (.call _); refine jcall0 (v := .int .i32 (rn (H.s.drop p))) (cM H (mv (wd (H.s.drop p)) { x with pos := p }) st (wd (H.s.drop p)) gd q F G) bo93 rfl rfl rfl (next_st hX { x with pos := p } st W _ _ hp) ?_)))))
      exact fin (hK (H.s.length - (p + wd (H.s.drop p))) (p + wd (H.s.drop p), wd (H.s.drop p), true, lv) (by have := wd_pos hne; dsimp only; omega) ⟨rfl, hwl, by dsimp only; omega, .inr (by dsimp only; omega), by have := wd_pos hne; dsimp only; omega, by dsimp only; rw [hjs, hjo, show p + wd (H.s.drop p) - x.pos = p - x.pos + wd (H.s.drop p) by omega]⟩) ⟨rfl, rfl, rfl, trivial⟩ rfl
  have hl1 := hlv1 h123
  rcases Decidable.em (rn (H.s.drop p) = 125) with h125 | h125
  · obtain ⟨r, hr, hw1⟩ := rn_head (k := 125) (by decide) h125
    have hjo : jsonL (H.s.drop p) (p - x.pos) b lv = if b then jsonL (H.s.drop (p + wd (H.s.drop p))) (p - x.pos + wd (H.s.drop p)) b lv else if lv ≤ 1 then some (p - x.pos + wd (H.s.drop p)) else jsonL (H.s.drop (p + wd (H.s.drop p))) (p - x.pos + wd (H.s.drop p)) b (lv - 1) := by
      rw [← hdw, hw1, hr, jsonL_shut]
      rfl
    cases hb : b
    · rw [hb, if_neg (by simp)] at hjo
      rw [hb] at hjs
      by_cases hl : lv ≤ 1
      · rw [if_pos hl] at hjo
        have hle := crlf_le (H.s.drop (p + wd (H.s.drop p)))
        rw [List.length_drop] at hle
        have hSc : StOk (X.sub 45 w) H (mv (crlf (H.s.drop (p + wd (H.s.drop p)))) (mv (wd (H.s.drop p)) { x with pos := p })) q G := hS.mv rfl (by (try dsimp only [lsOf, mv, ign, emitL]); omega) (by (try dsimp only [lsOf, mv, ign, emitL]); omega)
        have e1 : json H.s x = (emitL H.s 5 (mv (crlf (H.s.drop (p + wd (H.s.drop p)))) (mv (wd (H.s.drop p)) { x with pos := p })), some .main) := by
          unfold json
          rw [hjs, hjo]
          dsimp only
          rw [show x.pos + (p - x.pos + wd (H.s.drop p)) = p + wd (H.s.drop p) by omega, ← emitL_n H.s _ (by decide)]
          unfold mv
          dsimp only
          rw [show x.pos + (p - x.pos + wd (H.s.drop p) + crlf (H.s.drop (p + wd (H.s.drop p)))) = p + wd (H.s.drop p) + crlf (H.s.drop (p + wd (H.s.drop p))) by omega]
        rw [e1]
        obtain rfl : lv = 1 := by omega
        repeat' (first | refine cseq ?_ | refine rtext ?_ | refine ctrue rfl ?_ | refine cfalse rfl ?_ | refine cblk ?_ | refine cret ?_ | refine cexit ?_ | refine jnil ?_ | (first | refine jmv rfl rfl rfl ?_ | refine jas_ rfl rfl rfl ?_ | (show Jo _ (.binOp _ _ _ _ _); first | (show Jo _ (.binOp .sub _ _ _ _); refine jy (ysub (c := ((0 : Nat) : Int)) rfl rfl ((i64_in (by (try dsimp only [lsOf, mv, ign, emitL]); omega) (by (try dsimp only [lsOf, mv, ign, emitL]); omega)).trans (by (try dsimp only [lsOf, mv, ign, emitL]); omega))) rfl rfl ?_) | refine jy (yeql rfl rfl (by first | exact decide_eq_true (by omega) | exact decide_eq_false (by omega))) rfl rfl ?_) | refine jy (ynot rfl rfl) rfl rfl ?_ | (show Jo _ (.call _); first | (show Jo (some 9) (.call _); refine jcall0 (v := .int .i32 (rn (H.s.drop p))) (cM H (mv (wd (H.s.drop p)) { x with pos := p }) st (wd (H.s.drop p)) gd q F G) bo93 rfl rfl rfl (next_st hX { x with pos := p } st W _ _ hp) ?_) | (show Jo (some 42) (.call _); refine jcall (ι := Nat) (v := fun _ => .bool (decide (0 < crlf (H.s.drop (p + wd (H.s.drop p)))))) (m' := fun V => cM H (mv (crlf (H.s.drop (p + wd (H.s.drop p)))) (mv (wd (H.s.drop p)) { x with pos := p })) st V gd q F G) (fun _ => True) bo113 rfl rfl rfl (crlf_st hX (mv (wd (H.s.drop p)) { x with pos := p }) st _ _ _ hwl) (fun V _ => ?_)) | (show Jo (some 44) (.call _); refine jcall (ι := RS) (vs := [pL H, .int .i64 (5 : Nat)]) (v := fun _ => .tuple #[]) (m' := fun q' => cM H (emitL H.s 5 (mv (crlf (H.s.drop (p + wd (H.s.drop p)))) (mv (wd (H.s.drop p)) { x with pos := p }))) st V gd q' F G) (fun q' => StOk _ H (emitL H.s 5 (mv (crlf (H.s.drop (p + wd (H.s.drop p)))) (mv (wd (H.s.drop p)) { x with pos := p }))) q' G) bo116 rfl rfl rfl (emit_st hX hSc st _ V (by (try dsimp only [lsOf, mv, ign, emitL]); omega) 5) (fun q1 hS1 => ?_)))))
        exact ret1 rfl rfl rfl (fun w' hw' => ⟨q1, V, G, rfl, hw.up hw', StOk.up hw hS1⟩)
      · rw [if_neg hl] at hjo
        repeat' (first | refine cseq ?_ | refine rtext ?_ | refine ctrue rfl ?_ | refine cfalse rfl ?_ | refine cskip ?_ | refine cblk ?_ | refine tnorm ?_ | refine bnorm ?_ | refine jnil ?_ | (first | refine jmv rfl rfl rfl ?_ | refine jas_ rfl rfl rfl ?_ | (show Jo _ (.binOp _ _ _ _ _); first | (show Jo _ (.binOp .sub _ _ _ _); refine jy (ysub (c := ((lv - 1 : Nat) : Int)) rfl rfl ((i64_in (by (try dsimp only [lsOf, mv, ign, emitL]); omega) (by (try dsimp only [lsOf, mv, ign, emitL]); omega)).trans (by (try dsimp only [lsOf, mv, ign, emitL]); omega))) rfl rfl ?_) | refine jy (yeql rfl rfl (by first | exact decide_eq_true (by omega) | exact decide_eq_false (by omega))) rfl rfl ?_) | refine jy (ynot rfl rfl) rfl rfl ?_ | (show Jo _ (.call _); ((show Jo (some 9) (.call _); refine jcall0 (v := .int .i32 (rn (H.s.drop p))) (cM H (mv (wd (H.s.drop p)) { x with pos := p }) st (wd (H.s.drop p)) gd q F G) bo93 rfl rfl rfl (next_st hX { x with pos := p } st W _ _ hp) ?_)))))
        exact fin (hK (H.s.length - (p + wd (H.s.drop p))) (p + wd (H.s.drop p), wd (H.s.drop p), false, lv - 1) (by have := wd_pos hne; dsimp only; omega) ⟨rfl, hwl, by dsimp only; omega, .inr (by dsimp only; omega), by have := wd_pos hne; dsimp only; omega, by dsimp only; rw [hjs, hjo, show p + wd (H.s.drop p) - x.pos = p - x.pos + wd (H.s.drop p) by omega]⟩) ⟨rfl, rfl, rfl, trivial⟩ rfl
    · rw [hb, if_pos rfl] at hjo
      rw [hb] at hjs
      repeat' (first | refine cseq ?_ | refine rtext ?_ | refine ctrue rfl ?_ | refine cfalse rfl ?_ | refine cskip ?_ | refine cblk ?_ | refine tnorm ?_ | refine bnorm ?_ | refine jnil ?_ | (first | refine jmv rfl rfl rfl ?_ | refine jas_ rfl rfl rfl ?_ | (show Jo _ (.binOp _ _ _ _ _); (refine jy (yeql rfl rfl (by first | exact decide_eq_true (by omega) | exact decide_eq_false (by omega))) rfl rfl ?_)) | refine jy (ynot rfl rfl) rfl rfl ?_ | (show Jo _ (.call _); ((show Jo (some 9) (.call _); refine jcall0 (v := .int .i32 (rn (H.s.drop p))) (cM H (mv (wd (H.s.drop p)) { x with pos := p }) st (wd (H.s.drop p)) gd q F G) bo93 rfl rfl rfl (next_st hX { x with pos := p } st W _ _ hp) ?_)))))
      exact fin (hK (H.s.length - (p + wd (H.s.drop p))) (p + wd (H.s.drop p), wd (H.s.drop p), true, lv) (by have := wd_pos hne; dsimp only; omega) ⟨rfl, hwl, by dsimp only; omega, .inr (by dsimp only; omega), by have := wd_pos hne; dsimp only; omega, by dsimp only; rw [hjs, hjo, show p + wd (H.s.drop p) - x.pos = p - x.pos + wd (H.s.drop p) by omega]⟩) ⟨rfl, rfl, rfl, trivial⟩ rfl
  rcases Decidable.em (rn (H.s.drop p) = 34) with h34 | h34
  · obtain ⟨r, hr, hw1⟩ := rn_head (k := 34) (by decide) h34
    have hjo : jsonL (H.s.drop p) (p - x.pos) b lv = jsonL (H.s.drop (p + wd (H.s.drop p))) (p - x.pos + wd (H.s.drop p)) (!b) lv := by
      rw [← hdw, hw1, hr, jsonL_quote]
      rfl
    repeat' (first | refine cseq ?_ | refine rtext ?_ | refine ctrue rfl ?_ | refine cfalse rfl ?_ | refine cskip ?_ | refine cblk ?_ | refine tnorm ?_ | refine bnorm ?_ | refine jnil ?_ | (first | refine jmv rfl rfl rfl ?_ | refine jas_ rfl rfl rfl ?_ | (show Jo _ (.binOp _ _ _ _ _); (refine jy (yeql rfl rfl (by first | exact decide_eq_true (by omega) | exact decide_eq_false (by omega))) rfl rfl ?_)) | refine jy (ynot rfl rfl) rfl rfl ?_ | (show Jo _ (.call _); ((show Jo (some 9) (.call _); refine jcall0 (v := .int .i32 (rn (H.s.drop p))) (cM H (mv (wd (H.s.drop p)) { x with pos := p }) st (wd (H.s.drop p)) gd q F G) bo93 rfl rfl rfl (next_st hX { x with pos := p } st W _ _ hp) ?_)))))
    exact fin (hK (H.s.length - (p + wd (H.s.drop p))) (p + wd (H.s.drop p), wd (H.s.drop p), !b, lv) (by have := wd_pos hne; dsimp only; omega) ⟨rfl, hwl, by dsimp only; omega, .inr (by dsimp only; omega), by have := wd_pos hne; dsimp only; omega, by dsimp only; rw [hjs, hjo, show p + wd (H.s.drop p) - x.pos = p - x.pos + wd (H.s.drop p) by omega]⟩) ⟨rfl, rfl, rfl, trivial⟩ rfl
  rcases Decidable.em (rn (H.s.drop p) = 92) with h92 | h92
  · obtain ⟨r, hr, hw1⟩ := rn_head (k := 92) (by decide) h92
    have hwl2 := wd_rest hwl
    have hr2 : r = H.s.drop (p + wd (H.s.drop p)) := by rw [← hdw, hw1, hr]; rfl
    have hjo : jsonL (H.s.drop p) (p - x.pos) b lv = jsonL (H.s.drop (p + wd (H.s.drop p) + wd (H.s.drop (p + wd (H.s.drop p))))) (p - x.pos + wd (H.s.drop p) + wd (H.s.drop (p + wd (H.s.drop p)))) b lv := by
      rw [← drop_wd H.s (p + wd (H.s.drop p)), ← hr2, hw1]
      conv => lhs; rw [hr, jsonL_back]
    repeat' (first | refine cseq ?_ | refine rtext ?_ | refine ctrue rfl ?_ | refine cfalse rfl ?_ | refine cskip ?_ | refine cblk ?_ | refine tnorm ?_ | refine bnorm ?_ | refine jnil ?_ | (first | refine jmv rfl rfl rfl ?_ | refine jas_ rfl rfl rfl ?_ | (show Jo _ (.binOp _ _ _ _ _); (refine jy (yeql rfl rfl (by first | exact decide_eq_true (by omega) | exact decide_eq_false (by omega))) rfl rfl ?_)) | (show Jo _ (.call _); first | (show Jo (some 9) (.call _); refine jcall0 (v := .int .i32 (rn (H.s.drop p))) (cM H (mv (wd (H.s.drop p)) { x with pos := p }) st (wd (H.s.drop p)) gd q F G) bo93 rfl rfl rfl (next_st hX { x with pos := p } st W _ _ hp) ?_) | (show Jo (some 38) (.call _); refine jcall0 (v := .int .i32 (rn (H.s.drop (p + wd (H.s.drop p))))) (cM H (mv (wd (H.s.drop (p + wd (H.s.drop p)))) (mv (wd (H.s.drop p)) { x with pos := p })) st (wd (H.s.drop (p + wd (H.s.drop p)))) gd q F G) bo93 rfl rfl rfl (next_st hX (mv (wd (H.s.drop p)) { x with pos := p }) st (wd (H.s.drop p)) _ _ hwl) ?_))))
    exact fin (hK (H.s.length - (p + wd (H.s.drop p) + wd (H.s.drop (p + wd (H.s.drop p))))) (p + wd (H.s.drop p) + wd (H.s.drop (p + wd (H.s.drop p))), wd (H.s.drop (p + wd (H.s.drop p))), b, lv) (by dsimp only; omega) ⟨rfl, hwl2, by dsimp only; omega, .inr hl1, by dsimp only; omega, by dsimp only; rw [hjs, hjo, show p + wd (H.s.drop p) + wd (H.s.drop (p + wd (H.s.drop p))) - x.pos = p - x.pos + wd (H.s.drop p) + wd (H.s.drop (p + wd (H.s.drop p))) by omega]⟩) ⟨rfl, rfl, rfl, trivial⟩ rfl
  · have hjo := jsonL_rune (p - x.pos) b lv hne h92 h123 h125 h34
    rw [hdw] at hjo
    repeat' (first | refine cseq ?_ | refine rtext ?_ | refine cfalse rfl ?_ | refine cskip ?_ | refine cblk ?_ | refine tnorm ?_ | refine bnorm ?_ | refine jnil ?_ | (first | refine jmv rfl rfl rfl ?_ | refine jas_ rfl rfl rfl ?_ | (show Jo _ (.binOp _ _ _ _ _); refine jy (yeql rfl rfl (by (exact decide_eq_false (by omega)))) rfl rfl ?_) | (show Jo _ (.call _); ((show Jo (some 9) (.call _); refine jcall0 (v := .int .i32 (rn (H.s.drop p))) (cM H (mv (wd (H.s.drop p)) { x with pos := p }) st (wd (H.s.drop p)) gd q F G) bo93 rfl rfl rfl (next_st hX { x with pos := p } st W _ _ hp) ?_)))))
    exact fin (hK (H.s.length - (p + wd (H.s.drop p))) (p + wd (H.s.drop p), wd (H.s.drop p), b, lv) (by have := wd_pos hne; dsimp only; omega) ⟨rfl, hwl, by dsimp only; omega, .inr (by dsimp only; omega), by have := wd_pos hne; dsimp only; omega, by dsimp only; rw [hjs, hjo, show p + wd (H.s.drop p) - x.pos = p - x.pos + wd (H.s.drop p) by omega]⟩) ⟨rfl, rfl, rfl, trivial⟩ rfl
theorem bo98 : bodyB Tryz.prog 78 = true := by kernel_rfl
theorem orgL_go {c : UInt8} {r : T} (n : Nat) (h : c ≠ 10 ∨ [35, 43].isPrefixOf r = true) : orgL (c :: r) n = orgL r (n + 1) := by
  rw [orgL, if_neg]
  rintro ⟨h1, h2⟩
  rcases h with h | h
  · exact h h1
  · rw [h] at h2; cases h2
theorem orgL_drop : ∀ (k : Nat) (l : T) (n : Nat), k ≤ l.length → (∀ j, j < k → 128 ≤ gb l j) → orgL l n = orgL (l.drop k) (n + k) := by
  intro k
  induction k with
  | zero => intro l n _ _; simp
  | succ k ih =>
    intro l n hl hb
    cases l with
    | nil => simp at hl
    | cons c r =>
      have h0 : 128 ≤ c.toNat := hb 0 (Nat.succ_pos k)
      rw [orgL_go n (.inl (fun e => by subst e; exact absurd h0 (by decide))), ih r (n + 1) (by simpa using hl) (fun j hj => hb (j + 1) (by omega)), List.drop_succ_cons]
      congr 1
      omega
theorem orgL_rune {l : T} (n : Nat) (hl : l ≠ []) (h1 : rn l ≠ 10) : orgL l n = orgL (l.drop (wd l)) (n + wd l) := by
  cases l with
  | nil => exact absurd rfl hl
  | cons c r =>
    rcases rn_cons c r with ⟨ha, hb, hc⟩ | ⟨ha, hb⟩
    · rw [hc]
      exact orgL_go n (.inl (fun e => h1 (by subst e; exact hb)))
    · have hw : wd (c :: r) = (dec (c :: r)).2 := by unfold wd; rw [if_neg (by simp)]
      have hd := dec_wide (l := c :: r) ha
      rw [hw]
      exact orgL_drop _ _ n hd.2.1 hd.2.2
set_option maxHeartbeats 2000000 in
theorem org_calls {X : Cx} {H : Hd} {F G : Mem} (hX : Ok X H) {x : Lx} {q : RS} (hS : StOk X H x q G) (hf : x.items.length < 999999999000) (hp1 : x.pos + 1 ≤ H.s.length) (st : Value) (gd : Nat) : ∀ w, Cl X (cM H (mv 1 x) st 1 gd q F G) w → Calls Tryz.prog 78 #[pL H] w fun e w' => ∃ g', SR X H st g' F (org H.s x) e w' := by
  intro w hw
  refine enterC 28 hw Tryz.func78 rfl rfl (vs := [pL H]) rfl ?_
  replace hX := hX.sub hw 28
  replace hS := hS.sub 28 w
  have hs0 := hS.s
  conv => arg 2; arg 2; whnf
  by_cases hP : [35, 43].isPrefixOf (H.s.drop x.pos) = true
  · repeat' (first | refine cseq ?_ | refine rtext ?_ | refine cfalse rfl ?_ | refine cskip ?_ | refine cblk ?_ | refine cscope ?_ | refine clabel ?_ | refine jnil ?_ | (first | refine jmv rfl rfl rfl ?_ | refine jy (ynil rfl) rfl rfl ?_ | (show Jo _ (.fieldAddr _ _ _); refine jy (yfield rfl fb110_8 rfl) rfl rfl ?_) | refine jas_ rfl rfl rfl ?_ | (show Jo _ (.store _ _ _); (refine jstore (i := 1) rfl rfl rfl rfl rfl si59 hX.mL ?_; refine jperm (m' := [lB H (lsOf { x with org := true } st 1 (fV gn (divr true)) q.val), iB H, qB q, mB H x.op] ++ fB gn (divr true) :: fB gd (divr x.org) :: (F ++ G)) (List.perm_middle (l₁ := [lB H (lsOf { x with org := true } st 1 (fV gn (divr true)) q.val), iB H, qB q, mB H x.op])).symm ?_; refine jless (m' := cM H { x with org := true } st 1 gn q F G) (List.Sublist.cons_cons _ (List.Sublist.cons_cons _ (List.Sublist.cons_cons _ (List.Sublist.cons_cons _ (List.Sublist.cons_cons _ (List.sublist_cons_self _ _)))))) ?_)) | refine jy (ynot rfl rfl) rfl rfl ?_ | (show Jo _ (.call _); first | (show Jo (some 5) (.call _); refine jcall0 (v := .tuple #[]) (cM H x st 1 gd q F G) bo117 rfl rfl rfl (back_st hX x st _ _ 1 hp1) ?_) | (show Jo (some 7) (.call _); refine jcall (ι := Nat) (v := fun g => fV g [35, 43]) (m' := fun g => fB g [35, 43] :: cM H x st 1 gd q F G) (fun _ => True) bo118 rfl rfl rfl (freshM (fresh118 _)) (fun g _ => ?_)) | (show Jo (some 8) (.call _); refine jcall0 (v := .bool ([35, 43].isPrefixOf (H.s.drop x.pos))) (cM H x st 1 gd q F G) bo115 rfl rfl rfl (hasP_st hX (lsOf x st 1 (fV gd (divr x.org)) q.val) hS.p g [35, 43]) ?_; rw [hP]) | (show Jo (some 11) (.call _); refine jcall (ι := Nat) (v := fun g => fV g (divr true)) (m' := fun g => fB g (divr true) :: cM H x st 1 gd q F G) (fun _ => True) bo119 rfl rfl rfl (freshM (fresh119 _)) (fun gn _ => ?_)))))
    refine fin (f' := [(0, pL H)]) (m' := cM H { x with pos := x.pos, org := true } st 1 gn q F G)
      (cloop (ι := Nat × Nat) (fun _ => [(0, pL H)]) (fun u => cM H { x with pos := u.1, org := true } st u.2 gn q F G) (fun n u => n = H.s.length - u.1 ∧ u.1 ≤ H.s.length ∧ x.pos ≤ u.1 ∧ orgL (H.s.drop x.pos) 0 = orgL (H.s.drop u.1) (u.1 - x.pos)) (H.s.length - x.pos) (x.pos, 1) ⟨rfl, hS.p, Nat.le_refl _, by rw [Nat.sub_self]⟩ ?_) ⟨rfl, trivial⟩ rfl
    rintro n ⟨p, W⟩ ⟨rfl, hp, hxp, ho⟩ K hK
    dsimp only at hp hxp ho ⊢
    have hwl := wd_rest hp
    have hSq : StOk (X.sub 28 w) H (mv (wd (H.s.drop p)) { x with pos := p, org := true }) q G := hS.mv rfl hwl (by dsimp only [mv]; omega)
    have hend : ∀ k, orgL (H.s.drop x.pos) 0 = k → x.pos + k = p + wd (H.s.drop p) → org H.s x = (emitL H.s 6 (mv (wd (H.s.drop p)) { x with pos := p, org := true }), some .main) := fun k h1 h2 => by
      unfold org
      rw [if_pos hP, h1, ← emitL_n H.s _ (by decide)]
      unfold mv
      dsimp only
      rw [h2]
    have hdw : (H.s.drop p).drop (wd (H.s.drop p)) = H.s.drop (p + wd (H.s.drop p)) := drop_wd _ _
    rcases Decidable.em (rn (H.s.drop p) = 10) with h10 | h10
    · obtain ⟨r, hr, hw1⟩ := rn_head (k := 10) (by decide) h10
      have hr2 : r = H.s.drop (p + wd (H.s.drop p)) := by rw [← hdw, hw1, hr]; rfl
      cases hI : [35, 43].isPrefixOf (H.s.drop (p + wd (H.s.drop p)))
      · have e1 := hend (p - x.pos + 1) (by rw [ho, hr, orgL, if_pos ⟨rfl, by rw [hr2]; exact hI⟩]) (by rw [hw1]; omega)
        rw [e1]
        repeat' (first | refine cseq ?_ | refine rtext ?_ | refine ctrue rfl ?_ | refine cblk ?_ | refine cret ?_ | refine cexit ?_ | (show PJ _ (Exit.noGoto _ _) _ _; (refine gret ?_)) | refine jnil ?_ | (first | refine jmv rfl rfl rfl ?_ | refine jas_ rfl rfl rfl ?_ | (show Jo _ (.binOp _ _ _ _ _); refine jy (yeql rfl rfl (by (exact decide_eq_true (by omega)))) rfl rfl ?_) | refine jy (ynot rfl rfl) rfl rfl ?_ | (show Jo _ (.call _); first | (show Jo (some 15) (.call _); refine jcall0 (v := .int .i32 (rn (H.s.drop p))) (cM H (mv (wd (H.s.drop p)) { x with pos := p, org := true }) st (wd (H.s.drop p)) gn q F G) bo93 rfl rfl rfl (next_st hX { x with pos := p, org := true } st W _ _ hp) ?_) | (show Jo (some 20) (.call _); refine jcall (ι := Nat) (v := fun g => fV g [35, 43]) (m' := fun g => fB g [35, 43] :: cM H (mv (wd (H.s.drop p)) { x with pos := p, org := true }) st (wd (H.s.drop p)) gn q F G) (fun _ => True) bo118 rfl rfl rfl (freshM (fresh118 _)) (fun g _ => ?_)) | (show Jo (some 21) (.call _); refine jcall0 (v := .bool ([35, 43].isPrefixOf (H.s.drop (p + wd (H.s.drop p))))) (cM H (mv (wd (H.s.drop p)) { x with pos := p, org := true }) st (wd (H.s.drop p)) gn q F G) bo115 rfl rfl rfl (hasP_st hX (lsOf (mv (wd (H.s.drop p)) { x with pos := p, org := true }) st (wd (H.s.drop p)) (fV gn (divr true)) q.val) hwl g [35, 43]) ?_; rw [hI]) | (show Jo (some 27) (.call _); refine jcall (ι := RS) (vs := [pL H, .int .i64 (6 : Nat)]) (v := fun _ => .tuple #[]) (m' := fun q' => cM H (emitL H.s 6 (mv (wd (H.s.drop p)) { x with pos := p, org := true })) st (wd (H.s.drop p)) gn q' F G) (fun q' => StOk _ H (emitL H.s 6 (mv (wd (H.s.drop p)) { x with pos := p, org := true })) q' G) bo116 rfl rfl rfl (emit_st hX hSq st _ _ (by dsimp only [mv]; omega) 6) (fun q1 hS1 => ?_)))))
        exact ret1 rfl rfl rfl (fun w' hw' => ⟨gn, q1, _, G, rfl, hw.up hw', StOk.up hw hS1⟩)
      · have ho2 : orgL (H.s.drop p) (p - x.pos) = orgL (H.s.drop (p + wd (H.s.drop p))) (p - x.pos + wd (H.s.drop p)) := by rw [← hr2, hw1, hr]; exact orgL_go _ (.inr (by rw [hr2]; exact hI))
        have hk := hK (H.s.length - (p + wd (H.s.drop p))) (p + wd (H.s.drop p), wd (H.s.drop p)) (by dsimp only; omega) ⟨rfl, hwl, by dsimp only; omega, by dsimp only; rw [ho, ho2, show p + wd (H.s.drop p) - x.pos = p - x.pos + wd (H.s.drop p) by omega]⟩
        repeat' (first | refine cseq ?_ | refine rtext ?_ | refine ctrue rfl ?_ | refine cfalse rfl ?_ | refine cskip ?_ | refine cblk ?_ | refine tnorm ?_ | refine bnorm ?_ | refine jnil ?_ | (first | refine jmv rfl rfl rfl ?_ | refine jas_ rfl rfl rfl ?_ | (show Jo _ (.binOp _ _ _ _ _); refine jy (yeql rfl rfl (by (exact decide_eq_true (by omega)))) rfl rfl ?_) | refine jy (ynot rfl rfl) rfl rfl ?_ | (show Jo _ (.call _); first | (show Jo (some 15) (.call _); refine jcall0 (v := .int .i32 (rn (H.s.drop p))) (cM H (mv (wd (H.s.drop p)) { x with pos := p, org := true }) st (wd (H.s.drop p)) gn q F G) bo93 rfl rfl rfl (next_st hX { x with pos := p, org := true } st W _ _ hp) ?_) | (show Jo (some 20) (.call _); refine jcall (ι := Nat) (v := fun g => fV g [35, 43]) (m' := fun g => fB g [35, 43] :: cM H (mv (wd (H.s.drop p)) { x with pos := p, org := true }) st (wd (H.s.drop p)) gn q F G) (fun _ => True) bo118 rfl rfl rfl (freshM (fresh118 _)) (fun g _ => ?_)) | (show Jo (some 21) (.call _); refine jcall0 (v := .bool ([35, 43].isPrefixOf (H.s.drop (p + wd (H.s.drop p))))) (cM H (mv (wd (H.s.drop p)) { x with pos := p, org := true }) st (wd (H.s.drop p)) gn q F G) bo115 rfl rfl rfl (hasP_st hX (lsOf (mv (wd (H.s.drop p)) { x with pos := p, org := true }) st (wd (H.s.drop p)) (fV gn (divr true)) q.val) hwl g [35, 43]) ?_; rw [hI]))))
        exact fin hk ⟨rfl, trivial⟩ rfl
    · rcases Decidable.em (rn (H.s.drop p) = -1) with hn1 | hn1
      · have hnil := rn_neg.1 hn1
        have e1 := hend (p - x.pos) (by rw [ho, hnil, orgL]) (by rw [hnil]; show _ = p + 0; omega)
        rw [e1]
        repeat' (first | refine cseq ?_ | refine rtext ?_ | refine ctrue rfl ?_ | refine cfalse rfl ?_ | refine cblk ?_ | refine cret ?_ | refine cexit ?_ | (show PJ _ (Exit.noGoto _ _) _ _; (refine gret ?_)) | refine jnil ?_ | (first | refine jmv rfl rfl rfl ?_ | refine jas_ rfl rfl rfl ?_ | (show Jo _ (.binOp _ _ _ _ _); (refine jy (yeql rfl rfl (by first | exact decide_eq_true (by omega) | exact decide_eq_false (by omega))) rfl rfl ?_)) | (show Jo _ (.call _); first | (show Jo (some 15) (.call _); refine jcall0 (v := .int .i32 (rn (H.s.drop p))) (cM H (mv (wd (H.s.drop p)) { x with pos := p, org := true }) st (wd (H.s.drop p)) gn q F G) bo93 rfl rfl rfl (next_st hX { x with pos := p, org := true } st W _ _ hp) ?_) | (show Jo (some 27) (.call _); refine jcall (ι := RS) (vs := [pL H, .int .i64 (6 : Nat)]) (v := fun _ => .tuple #[]) (m' := fun q' => cM H (emitL H.s 6 (mv (wd (H.s.drop p)) { x with pos := p, org := true })) st (wd (H.s.drop p)) gn q' F G) (fun q' => StOk _ H (emitL H.s 6 (mv (wd (H.s.drop p)) { x with pos := p, org := true })) q' G) bo116 rfl rfl rfl (emit_st hX hSq st _ _ (by dsimp only [mv]; omega) 6) (fun q1 hS1 => ?_)))))
        exact ret1 rfl rfl rfl (fun w' hw' => ⟨gn, q1, _, G, rfl, hw.up hw', StOk.up hw hS1⟩)
      · have hne : H.s.drop p ≠ [] := fun h => hn1 (rn_neg.2 h)
        have hwp := wd_pos hne
        have ho2 := orgL_rune (p - x.pos) hne h10
        rw [hdw] at ho2
        have hk := hK (H.s.length - (p + wd (H.s.drop p))) (p + wd (H.s.drop p), wd (H.s.drop p)) (by dsimp only; omega) ⟨rfl, hwl, by dsimp only; omega, by dsimp only; rw [ho, ho2, show p + wd (H.s.drop p) - x.pos = p - x.pos + wd (H.s.drop p) by omega]⟩
        repeat' (first | refine cseq ?_ | refine rtext ?_ | refine cfalse rfl ?_ | refine cskip ?_ | refine cblk ?_ | refine tnorm ?_ | refine bnorm ?_ | refine jnil ?_ | (first | refine jmv rfl rfl rfl ?_ | refine jas_ rfl rfl rfl ?_ | (show Jo _ (.binOp _ _ _ _ _); refine jy (yeql rfl rfl (by (exact decide_eq_false (by omega)))) rfl rfl ?_) | (show Jo _ (.call _); ((show Jo (some 15) (.call _); refine jcall0 (v := .int .i32 (rn (H.s.drop p))) (cM H (mv (wd (H.s.drop p)) { x with pos := p, org := true }) st (wd (H.s.drop p)) gn q F G) bo93 rfl rfl rfl (next_st hX { x with pos := p, org := true } st W _ _ hp) ?_)))))
        exact fin hk ⟨rfl, trivial⟩ rfl
  · replace hP : [35, 43].isPrefixOf (H.s.drop x.pos) = false := Bool.eq_false_iff.2 hP
    have e1 : org H.s x = (x, some .main) := by unfold org; rw [if_neg (by rw [hP]; simp)]
    rw [e1]
    repeat' (first | refine cseq ?_ | refine rtext ?_ | refine ctrue rfl ?_ | refine cret ?_ | refine cscope ?_ | refine tret ?_ | (show PJ _ (Exit.noGoto _ _) _ _; (refine gret ?_)) | refine jnil ?_ | (first | refine jmv rfl rfl rfl ?_ | refine jas_ rfl rfl rfl ?_ | refine jy (ynot rfl rfl) rfl rfl ?_ | (show Jo _ (.call _); first | (show Jo (some 5) (.call _); refine jcall0 (v := .tuple #[]) (cM H x st 1 gd q F G) bo117 rfl rfl rfl (back_st hX x st _ _ 1 hp1) ?_) | (show Jo (some 7) (.call _); refine jcall (ι := Nat) (v := fun g => fV g [35, 43]) (m' := fun g => fB g [35, 43] :: cM H x st 1 gd q F G) (fun _ => True) bo118 rfl rfl rfl (freshM (fresh118 _)) (fun g _ => ?_)) | (show Jo (some 8) (.call _); refine jcall0 (v := .bool ([35, 43].isPrefixOf (H.s.drop x.pos))) (cM H x st 1 gd q F G) bo115 rfl rfl rfl (hasP_st hX (lsOf x st 1 (fV gd (divr x.org)) q.val) hS.p g [35, 43]) ?_; rw [hP]))))
    exact ret1 rfl rfl rfl (fun w' hw' => ⟨gd, q, 1, G, rfl, hw.up hw', StOk.up hw hS⟩)
theorem bo121 : bodyB Tryz.prog 99 = true := by kernel_rfl
theorem und134 : Tryz.prog.underlying 111 = some (.slice 3) := by kernel_rfl
theorem sz3 : szB Tryz.prog 3 1 = true := by kernel_rfl
def minS (acc j : Int) : Int := if j < 0 then acc else if acc = -1 then j else if j < acc then j else acc
def minL (l : List Int) : Int := l.foldl minS (-1)
def intsV (l : List Int) : List Value := l.map (.int .i64)
theorem minIndex_calls {w : World} {v : Value} {l : List Int} (ha : RowAt (fun _ => False) w v l.length (intsV l)) (hl : l.length ≤ 1000000000) : Calls Tryz.prog 99 #[v] w fun e w' => e = .returned (.int .i64 (minL l)) ∧ Below w.heap.size w w' := by
  obtain ⟨A, c, rfl, hel⟩ := ha
  refine enter (fun _ => False) 23 [] Tryz.func99 rfl rfl rfl (vs := [.slice A l.length c]) (Has.nil _) ?_
  conv => arg 2; arg 2; whnf
  repeat' (first | refine cseq ?_ | refine rtext ?_ | refine cblk ?_ | refine jnil ?_ | (first | refine jmv rfl rfl rfl ?_ | refine jas_ rfl rfl rfl ?_ | (show Jo _ (.call _); refine jy (ylenl rfl und134) rfl rfl ?_)))
  refine fin (f' := [(3, .int .i64 ((l.take 0).foldl minS (-1))), (6, .slice A l.length c), (7, .int .i64 l.length), (8, .int .i64 (0 : Nat))]) (m' := [])
    (cloop (ι := Nat) (fun j => [(3, .int .i64 ((l.take j).foldl minS (-1))), (6, .slice A l.length c), (7, .int .i64 l.length), (8, .int .i64 (j : Nat))]) (fun _ => []) (fun n j => j ≤ l.length ∧ n = l.length - j) l.length 0 ⟨Nat.zero_le _, rfl⟩ ?_) ⟨rfl, rfl, rfl, rfl, trivial⟩ rfl
  rintro n j ⟨hj, rfl⟩ K hK
  by_cases hlt : j < l.length
  · obtain ⟨x, hx⟩ : ∃ x, l[j]? = some x := ⟨_, List.getElem?_eq_getElem hlt⟩
    obtain ⟨ad, rfl, _, hc⟩ := hel j (.int .i64 x) (by simp [intsV, hx])
    have ht : l.take (j + 1) = l.take j ++ [x] := by
      obtain ⟨h1, h2⟩ := List.getElem?_eq_some_iff.1 hx
      rw [← h2, List.take_append_getElem]
    have hk := hK (l.length - (j + 1)) (j + 1) (by omega) ⟨by omega, rfl⟩
    rw [ht, List.foldl_append] at hk
    simp only [List.foldl_cons, List.foldl_nil] at hk
    generalize (l.take j).foldl minS (-1) = acc at hk ⊢
    unfold minS at hk
    rcases Decidable.em (x < 0) with h0 | h0
    · rw [if_pos h0] at hk
      repeat' (first | refine cseq ?_ | refine rtext ?_ | refine ctrue rfl ?_ | refine cskip ?_ | refine cblk ?_ | refine cexit ?_ | refine tnorm ?_ | refine jnil ?_ | (first | refine jmv rfl rfl rfl ?_ | (show Jo _ (.load _ _); refine jy (yloadw rfl hc (fun h => h) one3) rfl rfl ?_) | refine jas_ rfl rfl rfl ?_ | (show Jo _ (.binOp _ _ _ _ _); first | (show Jo _ (.binOp .add _ _ _ _); refine jy (yadd (c := ((j + 1 : Nat) : Int)) rfl rfl (by rw [i64_in (by omega) (by omega)]; omega)) rfl rfl ?_) | refine jy (ylss rfl rfl (by (exact decide_eq_true (by omega)))) rfl rfl ?_) | (show Jo _ (.indexAddr 111 _ _); refine jy (yat (p' := ad.add j) rfl rfl und134 sz3 (by omega) (by omega) (congrArg _ (by omega))) rfl rfl ?_)))
      exact fin hk ⟨rfl, rfl, rfl, rfl, trivial⟩ rfl
    · rw [if_neg h0] at hk
      rcases Decidable.em (acc = -1) with h1 | h1
      · rw [if_pos h1] at hk
        repeat' (first | refine cseq ?_ | refine rtext ?_ | refine ctrue rfl ?_ | refine cfalse rfl ?_ | refine cskip ?_ | refine cblk ?_ | refine tnorm ?_ | refine jnil ?_ | (first | refine jmv rfl rfl rfl ?_ | (show Jo _ (.load _ _); refine jy (yloadw rfl hc (fun h => h) one3) rfl rfl ?_) | refine jas_ rfl rfl rfl ?_ | (show Jo _ (.binOp _ _ _ _ _); first | (show Jo _ (.binOp .add _ _ _ _); refine jy (yadd (c := ((j + 1 : Nat) : Int)) rfl rfl (by rw [i64_in (by omega) (by omega)]; omega)) rfl rfl ?_) | refine jy (ylss rfl rfl (by first | exact decide_eq_true (by omega) | exact decide_eq_false (by omega))) rfl rfl ?_ | refine jy (yeql rfl rfl (by (exact decide_eq_true (by omega)))) rfl rfl ?_) | (show Jo _ (.indexAddr 111 _ _); refine jy (yat (p' := ad.add j) rfl rfl und134 sz3 (by omega) (by omega) (congrArg _ (by omega))) rfl rfl ?_)))
        exact fin hk ⟨rfl, rfl, rfl, rfl, trivial⟩ rfl
      · rw [if_neg h1] at hk
        rcases Decidable.em (x < acc) with h2 | h2
        · rw [if_pos h2] at hk
          repeat' (first | refine cseq ?_ | refine rtext ?_ | refine ctrue rfl ?_ | refine cfalse rfl ?_ | refine cskip ?_ | refine cblk ?_ | refine tnorm ?_ | refine jnil ?_ | (first | refine jmv rfl rfl rfl ?_ | (show Jo _ (.load _ _); refine jy (yloadw rfl hc (fun h => h) one3) rfl rfl ?_) | refine jas_ rfl rfl rfl ?_ | (show Jo _ (.binOp _ _ _ _ _); first | (show Jo _ (.binOp .add _ _ _ _); refine jy (yadd (c := ((j + 1 : Nat) : Int)) rfl rfl (by rw [i64_in (by omega) (by omega)]; omega)) rfl rfl ?_) | refine jy (ylss rfl rfl (by first | exact decide_eq_true (by omega) | exact decide_eq_false (by omega))) rfl rfl ?_ | refine jy (yeql rfl rfl (by (exact decide_eq_false (by omega)))) rfl rfl ?_) | (show Jo _ (.indexAddr 111 _ _); refine jy (yat (p' := ad.add j) rfl rfl und134 sz3 (by omega) (by omega) (congrArg _ (by omega))) rfl rfl ?_)))
          exact fin hk ⟨rfl, rfl, rfl, rfl, trivial⟩ rfl
        · rw [if_neg h2] at hk
          repeat' (first | refine cseq ?_ | refine rtext ?_ | refine ctrue rfl ?_ | refine cfalse rfl ?_ | refine cskip ?_ | refine cblk ?_ | refine tnorm ?_ | refine jnil ?_ | (first | refine jmv rfl rfl rfl ?_ | (show Jo _ (.load _ _); refine jy (yloadw rfl hc (fun h => h) one3) rfl rfl ?_) | refine jas_ rfl rfl rfl ?_ | (show Jo _ (.binOp _ _ _ _ _); first | (show Jo _ (.binOp .add _ _ _ _); refine jy (yadd (c := ((j + 1 : Nat) : Int)) rfl rfl (by rw [i64_in (by omega) (by omega)]; omega)) rfl rfl ?_) | refine jy (ylss rfl rfl (by first | exact decide_eq_true (by omega) | exact decide_eq_false (by omega))) rfl rfl ?_ | refine jy (yeql rfl rfl (by (exact decide_eq_false (by omega)))) rfl rfl ?_) | (show Jo _ (.indexAddr 111 _ _); refine jy (yat (p' := ad.add j) rfl rfl und134 sz3 (by omega) (by omega) (congrArg _ (by omega))) rfl rfl ?_)))
          exact fin hk ⟨rfl, rfl, rfl, rfl, trivial⟩ rfl
  · obtain rfl : j = l.length := by omega
    repeat' (first | refine cseq ?_ | refine rtext ?_ | refine cfalse rfl ?_ | refine cret ?_ | refine cexit ?_ | refine jnil ?_ | (first | refine jmv rfl rfl rfl ?_ | refine jas_ rfl rfl rfl ?_ | (show Jo _ (.binOp _ _ _ _ _); refine jy (ylss rfl rfl (by (exact decide_eq_false (by omega)))) rfl rfl ?_)))
    exact ret1 rfl rfl rfl (fun w' hw' => ⟨by rw [List.take_length]; rfl, hw'.2.below (fun k _ h => h) (Nat.le_refl _)⟩)
theorem bo94 : bodyB Tryz.prog 74 = true := by kernel_rfl
theorem fr_go {d : T} {c : UInt8} {r : T} (n : Nat) (h : (c ≠ 13 ∧ c ≠ 10) ∨ d.isPrefixOf r = false) : fr d (c :: r) n = fr d r (n + 1) := by
  rw [fr, if_neg]
  rintro ⟨h1, h2⟩
  rcases h with ⟨h3, h4⟩ | h
  · rcases h1 with h1 | h1
    · exact h3 h1
    · exact h4 h1
  · rw [h] at h2; cases h2
theorem fr_at {d : T} {c : UInt8} {r : T} (n : Nat) (h : c = 13 ∨ c = 10) (h2 : d.isPrefixOf r = true) : fr d (c :: r) n = some (n + 1) := by rw [fr, if_pos ⟨h, h2⟩]
theorem fr_drop {d : T} : ∀ (k : Nat) (l : T) (n : Nat), k ≤ l.length → (∀ j, j < k → 128 ≤ gb l j) → fr d l n = fr d (l.drop k) (n + k) := by
  intro k
  induction k with
  | zero => intro l n _ _; simp
  | succ k ih =>
    intro l n hl hb
    cases l with
    | nil => simp at hl
    | cons c r =>
      have h0 : 128 ≤ c.toNat := hb 0 (Nat.succ_pos k)
      rw [fr_go n (.inl ⟨fun e => by subst e; exact absurd h0 (by decide), fun e => by subst e; exact absurd h0 (by decide)⟩), ih r (n + 1) (by simpa using hl) (fun j hj => hb (j + 1) (by omega)), List.drop_succ_cons]
      congr 1
      omega
theorem fr_rune {d l : T} (n : Nat) (hl : l ≠ []) (h1 : rn l ≠ 10) (h2 : rn l ≠ 13) : fr d l n = fr d (l.drop (wd l)) (n + wd l) := by
  cases l with
  | nil => exact absurd rfl hl
  | cons c r =>
    rcases rn_cons c r with ⟨ha, hb, hc⟩ | ⟨ha, hb⟩
    · rw [hc]
      exact fr_go n (.inl ⟨fun e => h2 (by subst e; exact hb), fun e => h1 (by subst e; exact hb)⟩)
    · have hw : wd (c :: r) = (dec (c :: r)).2 := by unfold wd; rw [if_neg (by simp)]
      have hd := dec_wide (l := c :: r) ha
      rw [hw]
      exact fr_drop _ _ n hd.2.1 hd.2.2
theorem fr_nil (d : T) (n : Nat) : fr d [] n = none := by rw [fr]
theorem fence_eq (s : T) (c : UInt8) (hc : c.toNat < 128) (ty : Nat) (x : Lx) : fence s c ty x =
    if rn (s.drop x.pos) = (c.toNat : Int) then
      if rn (s.drop (x.pos + 1)) = (c.toNat : Int) then
        (match fr0 [c, c, c] (s.drop (x.pos + (2 + crlf (s.drop (x.pos + 2))))) (decide (0 < crlf (s.drop (x.pos + 2)))) with
        | none => fail { ign (mv (2 + crlf (s.drop (x.pos + 2))) x) with pos := s.length }
        | some n => (ign (mv (3 + crlf (s.drop ((ign (mv (2 + crlf (s.drop (x.pos + 2))) x)).pos + n + 3))) (emit ty (mv n (ign (mv (2 + crlf (s.drop (x.pos + 2))) x))))), some .main))
      else fail (mv (1 + wd (s.drop (x.pos + 1))) x)
    else fail (mv (wd (s.drop x.pos)) x) := by
  have h1 : s.drop (x.pos + 1) = (s.drop x.pos).drop 1 := by rw [List.drop_drop]
  have h2 : s.drop (x.pos + 2) = (s.drop x.pos).drop 2 := by rw [List.drop_drop]
  have hl : ∀ (a : UInt8) (r : T), (rn (a :: r) = (c.toNat : Int)) = (a = c) := fun a r => rn_lit a c r hc
  have hn : rn [] ≠ (c.toNat : Int) := fun h => by have h0 : (-1 : Int) = c.toNat := h; omega
  unfold fence
  rw [h1, h2]
  cases hd : s.drop x.pos with
  | nil => rw [if_neg hn]; rfl
  | cons a r =>
    simp only [hl]
    cases r with
    | nil =>
      by_cases ha : a = c
      · rw [if_pos ha]
        show _ = if rn [] = _ then _ else _
        rw [if_neg hn]
        dsimp only
        rw [if_pos ha]
        rfl
      · rw [if_neg ha]
        dsimp only
        rw [if_neg ha]
    | cons b r =>
      by_cases ha : a = c
      · rw [if_pos ha]
        show _ = if rn (b :: r) = _ then _ else _
        simp only [hl]
        by_cases hb : b = c
        · rw [if_pos hb]
          rw [if_pos ha, if_pos hb]
          rfl
        · rw [if_neg hb]
          rw [if_pos ha, if_neg hb]
          rfl
      · rw [if_neg ha]
        dsimp only
        rw [if_neg ha]
theorem fr0_t {d l : T} (h : d.isPrefixOf l = true) : fr0 d l true = some 0 := by unfold fr0; rw [if_pos ⟨rfl, h⟩]
theorem fr0_f {d l : T} (h : d.isPrefixOf l = false) : fr0 d l true = fr d l 0 := by unfold fr0; rw [if_neg (by rw [h]; simp)]
theorem fr0_n {d l : T} : fr0 d l false = fr d l 0 := by unfold fr0; rw [if_neg (by simp)]
theorem pre_len {p l : T} (h : p.isPrefixOf l = true) : p.length ≤ l.length := (List.isPrefixOf_iff_prefix.1 h).length_le
set_option maxHeartbeats 2000000 in
theorem fence9 {Z X : Cx} {H : Hd} {F G : Mem} {w : World} {m0 : Mem} (hZ : Z = X.sub 64 w) (hw : Cl X m0 w) (hX : Ok Z H) {y : Lx} {q : RS} (hS : StOk Z H y q G) (hf : y.items.length < 999999999980) (st nm : Value) (W gd gf ty : Nat) (hty : ty ≠ 18) (d : T) (hd3 : d.length = 3) (b : Bool) (r : Res)
    (hr : r = match fr0 d (H.s.drop y.pos) b with | none => fail { y with pos := H.s.length } | some n => (ign (mv (3 + crlf (H.s.drop (y.pos + n + 3))) (emit ty (mv n y))), some .main)) (hnm : ∃ s, nm = .string s) :
    PJ Z ((codeAt Tryz.f74 9).wp Tryz.prog (bodyPost Tryz.prog Tryz.f74 (SR X H st gd (fB gf d :: F) r))) [(0, pL H), (1, .int .i64 ty), (3, nm), (4, fV gf d), (12, .bool b)] (cM H y st W gd q (fB gf d :: F) G) := by
  subst hZ
  obtain ⟨nms, rfl⟩ := hnm
  have hbig := hX.big
  have hs0 := hS.s
  conv => arg 2; arg 2; whnf
  repeat' (first | refine cseq ?_ | refine rtext ?_ | refine cblk ?_ | refine jnil ?_ | ((refine jas_ rfl rfl rfl ?_)))
  refine fin (f' := [(0, pL H), (1, .int .i64 ty), (3, .string nms), (4, fV gf d), (12, .bool b)]) (m' := cM H { y with pos := y.pos } st W gd q (fB gf d :: F) G)
    (cloop (ι := Nat × Nat × Bool) (fun u => [(0, pL H), (1, .int .i64 ty), (3, .string nms), (4, fV gf d), (12, .bool u.2.2)]) (fun u => cM H { y with pos := u.1 } st u.2.1 gd q (fB gf d :: F) G) (fun n u => n = H.s.length - u.1 + (if u.2.2 then 1 else 0) ∧ u.1 ≤ H.s.length ∧ y.pos ≤ u.1 ∧ (if u.2.2 then u.1 = y.pos ∧ b = true else fr0 d (H.s.drop y.pos) b = fr d (H.s.drop u.1) (u.1 - y.pos))) (H.s.length - y.pos + (if b then 1 else 0)) (y.pos, W, b) ⟨rfl, hS.p, Nat.le_refl _, by cases b <;> simp [fr0_n]⟩ ?_) ⟨rfl, rfl, rfl, rfl, rfl, trivial⟩ rfl
  rintro n ⟨p, W, was⟩ ⟨rfl, hp, hyp, hi⟩ K hK
  dsimp only at hp hyp hi ⊢
  have hwl := wd_rest hp
  have hSq : StOk (X.sub 64 w) H (mv (wd (H.s.drop p)) { y with pos := p }) q G := hS.mv rfl hwl (by (try dsimp only [lsOf, mv, ign, emitL]); omega)
  have hdw : (H.s.drop p).drop (wd (H.s.drop p)) = H.s.drop (p + wd (H.s.drop p)) := drop_wd _ _
  cases was
  · rw [if_neg (by simp)] at hi
    rcases Decidable.em (rn (H.s.drop p) = -1) with hn1 | hn1
    · have hnil := rn_neg.1 hn1
      have hpe : p = H.s.length := by have := congrArg List.length hnil; rw [List.length_drop] at this; simp at this; omega
      have hw0 : wd (H.s.drop p) = 0 := by rw [hnil]; rfl
      have e1 : r = (errI { y with pos := p }, none) := by
        rw [hr, hi, hnil, fr_nil, hpe]
        rfl
      rw [e1]
      repeat' (first | refine cseq ?_ | refine rtext ?_ | refine ctrue rfl ?_ | refine cblk ?_ | refine cret ?_ | refine tret ?_ | refine bret ?_ | refine jnil ?_ | (first | refine jmv rfl rfl rfl ?_ | refine jas_ rfl rfl rfl ?_ | (show Jo _ (.binOp _ _ _ _ _); refine jy (yeql rfl rfl (by (exact decide_eq_true (by omega)))) rfl rfl ?_) | refine jy (ynot rfl rfl) rfl rfl ?_ | (show Jo _ (.call _); first | (show Jo (some 34) (.call _); refine jcall0 (v := .int .i32 (rn (H.s.drop p))) (cM H (mv (wd (H.s.drop p)) { y with pos := p }) st (wd (H.s.drop p)) gd q (fB gf d :: F) G) bo93 rfl rfl rfl (next_st hX { y with pos := p } st W _ _ hp) ?_) | (show Jo (some 41) (.call _); refine jcall (ι := RS) (v := fun _ => .nilFunc) (m' := fun q' => cM H (errI (mv (wd (H.s.drop p)) { y with pos := p })) st (wd (H.s.drop p)) gd q' (fB gf d :: F) G) (fun q' => StOk _ H (errI (mv (wd (H.s.drop p)) { y with pos := p })) q' G) bo112 rfl rfl rfl (err_st hX hSq st _ _ (by (try dsimp only [lsOf, mv, ign, emitL]); omega) _ _) (fun q1 hS1 => ?_))) | (show Jo _ (.makeInterface 9 _); refine jy (ymkI rfl co9) rfl rfl ?_) | (show Jo _ (.buildSlice 130 _ _); refine jlitN (n := 1) (vs := [.iface 9 _]) rfl rfl rfl rfl gr153 rfl rfl rfl rfl (fun gz hTz => ?_); refine jless (List.sublist_cons_self _ _) ?_)))
      refine ret1 rfl rfl rfl (fun w' hw' => ⟨q1, 0, G, rfl, ?_, ?_⟩)
      · have h1 := hw.up hw'
        rw [hw0] at h1
        exact h1
      · have h2 := StOk.up hw hS1
        rw [hw0] at h2
        exact h2
    have hne : H.s.drop p ≠ [] := fun h => hn1 (rn_neg.2 h)
    have hwp := wd_pos hne
    rcases Decidable.em (rn (H.s.drop p) = 13 ∨ rn (H.s.drop p) = 10) with h1310 | h1310
    · have hEO : (rn (H.s.drop p) == 13 || rn (H.s.drop p) == 10) = true := by rcases h1310 with h | h <;> rw [h] <;> rfl
      obtain ⟨c, rr, hcr, hw1, hc⟩ : ∃ c rr, H.s.drop p = c :: rr ∧ wd (H.s.drop p) = 1 ∧ (c = 13 ∨ c = 10) := by
        rcases h1310 with h | h
        · obtain ⟨rr, h1, h2⟩ := rn_head (k := 13) (by decide) h
          exact ⟨13, rr, h1, h2, .inl rfl⟩
        · obtain ⟨rr, h1, h2⟩ := rn_head (k := 10) (by decide) h
          exact ⟨10, rr, h1, h2, .inr rfl⟩
      have hrr : rr = H.s.drop (p + wd (H.s.drop p)) := by rw [← hdw, hw1, hcr]; rfl
      have he := hwl
      cases hP : d.isPrefixOf (H.s.drop (p + wd (H.s.drop p)))
      · have hfr : fr d (H.s.drop p) (p - y.pos) = fr d (H.s.drop (p + wd (H.s.drop p))) (p + wd (H.s.drop p) - y.pos) := by
          rw [← hrr, hw1, show p + 1 - y.pos = p - y.pos + 1 by omega]
          conv => lhs; rw [hcr, fr_go _ (.inr (by rw [hrr]; exact hP))]
        have hk := hK (H.s.length - (p + wd (H.s.drop p))) (p + wd (H.s.drop p), wd (H.s.drop p), false) (by dsimp only; simp; omega) ⟨by simp, he, by dsimp only; omega, by dsimp only; rw [if_neg (by simp), hi, hfr]⟩
        repeat' (first | refine cseq ?_ | refine rtext ?_ | refine ctrue rfl ?_ | refine cfalse rfl ?_ | refine cskip ?_ | refine cblk ?_ | refine tnorm ?_ | refine bnorm ?_ | refine jnil ?_ | (first | refine jmv rfl rfl rfl ?_ | refine jas_ rfl rfl rfl ?_ | (show Jo _ (.binOp _ _ _ _ _); refine jy (yeql rfl rfl (by (exact decide_eq_false (by omega)))) rfl rfl ?_) | (show Jo _ (.pick _ _ _); refine jy (ypick0 rfl rfl) rfl rfl ?_) | refine jy (ynot rfl rfl) rfl rfl ?_ | (show Jo _ (.call _); first | (show Jo (some 45) (.call _); refine jcallq (v := .bool (rn (H.s.drop p) == 13 || rn (H.s.drop p) == 10)) bo100 rfl rfl rfl (quietC fun w' hw' => eol_calls _) ?_; rw [hEO]) | (show Jo (some 34) (.call _); refine jcall0 (v := .int .i32 (rn (H.s.drop p))) (cM H (mv (wd (H.s.drop p)) { y with pos := p }) st (wd (H.s.drop p)) gd q (fB gf d :: F) G) bo93 rfl rfl rfl (next_st hX { y with pos := p } st W _ _ hp) ?_) | (show Jo (some 49) (.call _); refine jcallq (v := .bool (d.isPrefixOf (H.s.drop (p + wd (H.s.drop p))))) bo115 rfl rfl rfl (quietC fun w' hw' => hasPrefix_calls (l := lsOf (mv (wd (H.s.drop p)) { y with pos := p }) st (wd (H.s.drop p)) (fV gd (divr y.org)) q.val) (p := d) (hw'.1.sub (List.Sublist.cons_cons _ (List.Sublist.cons_cons _ (List.nil_sublist _)))) (fresh_byt hw'.1 (.tail _ (.tail _ (.tail _ (.tail _ (.tail _ (.head _))))))) hX.sz he) ?_; rw [hP]))))
        exact fin hk ⟨rfl, rfl, rfl, rfl, rfl, trivial⟩ rfl
      · have hp3 := pre_len hP
        rw [hd3, List.length_drop] at hp3
        have he3 : p + wd (H.s.drop p) + 3 ≤ H.s.length := by omega
        have hSe : StOk (X.sub 64 w) H (mv (wd (H.s.drop p)) { y with pos := p }) q G := hSq
        have e1 : r = (ign (mv (crlf (H.s.drop (p + wd (H.s.drop p) + 3))) (mv 3 (emitL H.s ty (mv (wd (H.s.drop p)) { y with pos := p })))), some .main) := by
          rw [hr, hi]
          conv => lhs; rw [hcr, fr_at _ hc (by rw [hrr]; exact hP)]
          dsimp only
          rw [← emitL_n H.s _ hty, show y.pos + (p - y.pos + 1) = p + wd (H.s.drop p) by omega]
          unfold mv ign
          dsimp only
          rw [show y.pos + (p - y.pos + 1) = p + wd (H.s.drop p) by omega, Nat.add_assoc (p + wd (H.s.drop p)) 3]
        rw [e1]
        have hcl := crlf_le (H.s.drop (p + wd (H.s.drop p) + 3))
        rw [List.length_drop] at hcl
        repeat' (first | refine cseq ?_ | refine rtext ?_ | refine ctrue rfl ?_ | refine cfalse rfl ?_ | refine cskip ?_ | refine cblk ?_ | refine cret ?_ | refine cexit ?_ | refine jnil ?_ | (first | refine jmv rfl rfl rfl ?_ | refine jy (ynil rfl) rfl rfl ?_ | (show Jo _ (.fieldAddr _ _ _); refine jy (yfield rfl fb110_3 rfl) rfl rfl ?_) | (show Jo _ (.load _ _); refine jy (yload (i := 0) rfl rfl rfl one3) rfl rfl ?_) | refine jas_ rfl rfl rfl ?_ | (show Jo _ (.binOp _ _ _ _ _); first | refine jy (yadd (c := ((p + wd (H.s.drop p) + 3 : Nat) : Int)) rfl rfl ((i64_in (by (try dsimp only [lsOf, mv, ign, emitL]); omega) (by (try dsimp only [lsOf, mv, ign, emitL]); omega)).trans (by (try dsimp only [lsOf, mv, ign, emitL]); omega))) rfl rfl ?_ | refine jy (yeql rfl rfl (by (exact decide_eq_false (by omega)))) rfl rfl ?_) | (show Jo _ (.store _ _ _); refine jstore (i := 0) rfl rfl rfl rfl rfl si3 hX.mL ?_) | (show Jo _ (.pick _ _ _); refine jy (ypick0 rfl rfl) rfl rfl ?_) | refine jy (ynot rfl rfl) rfl rfl ?_ | (show Jo _ (.call _); first | (show Jo (some 45) (.call _); refine jcallq (v := .bool (rn (H.s.drop p) == 13 || rn (H.s.drop p) == 10)) bo100 rfl rfl rfl (quietC fun w' hw' => eol_calls _) ?_; rw [hEO]) | (show Jo (some 34) (.call _); refine jcall0 (v := .int .i32 (rn (H.s.drop p))) (cM H (mv (wd (H.s.drop p)) { y with pos := p }) st (wd (H.s.drop p)) gd q (fB gf d :: F) G) bo93 rfl rfl rfl (next_st hX { y with pos := p } st W _ _ hp) ?_) | (show Jo (some 49) (.call _); refine jcallq (v := .bool (d.isPrefixOf (H.s.drop (p + wd (H.s.drop p))))) bo115 rfl rfl rfl (quietC fun w' hw' => hasPrefix_calls (l := lsOf (mv (wd (H.s.drop p)) { y with pos := p }) st (wd (H.s.drop p)) (fV gd (divr y.org)) q.val) (p := d) (hw'.1.sub (List.Sublist.cons_cons _ (List.Sublist.cons_cons _ (List.nil_sublist _)))) (fresh_byt hw'.1 (.tail _ (.tail _ (.tail _ (.tail _ (.tail _ (.head _))))))) hX.sz he) ?_; rw [hP]) | (show Jo (some 52) (.call _); refine jcall (ι := RS) (vs := [pL H, .int .i64 ty]) (v := fun _ => .tuple #[]) (m' := fun q' => cM H (emitL H.s ty (mv (wd (H.s.drop p)) { y with pos := p })) st (wd (H.s.drop p)) gd q' (fB gf d :: F) G) (fun q' => StOk _ H (emitL H.s ty (mv (wd (H.s.drop p)) { y with pos := p })) q' G) bo116 rfl rfl rfl (emit_st hX hSe st _ (wd (H.s.drop p)) (by (try dsimp only [lsOf, mv, ign, emitL]); omega) ty) (fun q1 hS1 => ?_)) | (show Jo (some 61) (.call _); refine jcall (ι := Nat) (v := fun _ => .bool (decide (0 < crlf (H.s.drop ((p + wd (H.s.drop p)) + 3))))) (m' := fun V2 => cM H (mv (crlf (H.s.drop ((p + wd (H.s.drop p)) + 3))) (mv 3 (emitL H.s ty (mv (wd (H.s.drop p)) { y with pos := p })))) st V2 gd q1 (fB gf d :: F) G) (fun _ => True) bo113 rfl rfl rfl (crlf_st hX (mv 3 (emitL H.s ty (mv (wd (H.s.drop p)) { y with pos := p }))) st _ _ _ he3) (fun V2 _ => ?_)) | (show Jo (some 63) (.call _); refine jcall0 (v := .tuple #[]) (cM H (ign (mv (crlf (H.s.drop ((p + wd (H.s.drop p)) + 3))) (mv 3 (emitL H.s ty (mv (wd (H.s.drop p)) { y with pos := p }))))) st V2 gd q1 (fB gf d :: F) G) bo114 rfl rfl rfl (ign_st hX (mv (crlf (H.s.drop ((p + wd (H.s.drop p)) + 3))) (mv 3 (emitL H.s ty (mv (wd (H.s.drop p)) { y with pos := p })))) st _ _ _) ?_))))
        exact ret1 rfl rfl rfl (fun w' hw' => ⟨q1, V2, G, rfl, hw.up hw', (StOk.up hw hS1).mv rfl (by (try dsimp only [lsOf, mv, ign, emitL]); omega) (Nat.le_refl _)⟩)
    · have hEO : (rn (H.s.drop p) == 13 || rn (H.s.drop p) == 10) = false := by
        simp only [Bool.or_eq_false_iff, beq_eq_false_iff_ne]
        exact ⟨fun h => h1310 (.inl h), fun h => h1310 (.inr h)⟩
      have hfr := fr_rune (d := d) (p - y.pos) hne (fun h => h1310 (.inr h)) (fun h => h1310 (.inl h))
      rw [hdw] at hfr
      have hk := hK (H.s.length - (p + wd (H.s.drop p))) (p + wd (H.s.drop p), wd (H.s.drop p), false) (by dsimp only; simp; omega) ⟨by simp, hwl, by dsimp only; omega, by dsimp only; rw [if_neg (by simp), hi, hfr, show p + wd (H.s.drop p) - y.pos = p - y.pos + wd (H.s.drop p) by omega]⟩
      repeat' (first | refine cseq ?_ | refine rtext ?_ | refine ctrue rfl ?_ | refine cfalse rfl ?_ | refine cskip ?_ | refine cblk ?_ | refine tnorm ?_ | refine bnorm ?_ | refine jnil ?_ | (first | refine jmv rfl rfl rfl ?_ | refine jas_ rfl rfl rfl ?_ | (show Jo _ (.binOp _ _ _ _ _); refine jy (yeql rfl rfl (by (exact decide_eq_false (by omega)))) rfl rfl ?_) | (show Jo _ (.pick _ _ _); refine jy (ypick0 rfl rfl) rfl rfl ?_) | refine jy (ynot rfl rfl) rfl rfl ?_ | (show Jo _ (.call _); first | (show Jo (some 45) (.call _); refine jcallq (v := .bool (rn (H.s.drop p) == 13 || rn (H.s.drop p) == 10)) bo100 rfl rfl rfl (quietC fun w' hw' => eol_calls _) ?_; rw [hEO]) | (show Jo (some 34) (.call _); refine jcall0 (v := .int .i32 (rn (H.s.drop p))) (cM H (mv (wd (H.s.drop p)) { y with pos := p }) st (wd (H.s.drop p)) gd q (fB gf d :: F) G) bo93 rfl rfl rfl (next_st hX { y with pos := p } st W _ _ hp) ?_))))
      exact fin hk ⟨rfl, rfl, rfl, rfl, rfl, trivial⟩ rfl
  · rw [if_pos rfl] at hi
    obtain ⟨hpy, hb⟩ := hi
    have he := hp
    have hSp : StOk (X.sub 64 w) H { y with pos := p } q G := hS.mv rfl hp (by (try dsimp only [lsOf, mv, ign, emitL]); omega)
    have hEO : True := trivial
    cases hP : d.isPrefixOf (H.s.drop p)
    · have hk := hK (H.s.length - p) (p, W, false) (by dsimp only; simp) ⟨by simp, hp, hyp, by dsimp only; rw [if_neg (by simp), hb, ← hpy, fr0_f hP, Nat.sub_self]⟩
      repeat' (first | refine cseq ?_ | refine rtext ?_ | refine ctrue rfl ?_ | refine cfalse rfl ?_ | refine cskip ?_ | refine cblk ?_ | refine tnorm ?_ | refine bnorm ?_ | refine jnil ?_ | (first | refine js rfl rfl ?_ | refine jmv rfl rfl rfl ?_ | refine jas_ rfl rfl rfl ?_ | (show Jo _ (.pick _ _ _); refine jy (ypick1 rfl rfl) rfl rfl ?_) | refine jy (ynot rfl rfl) rfl rfl ?_ | (show Jo _ (.call _); ((show Jo (some 49) (.call _); refine jcallq (v := .bool (d.isPrefixOf (H.s.drop p))) bo115 rfl rfl rfl (quietC fun w' hw' => hasPrefix_calls (l := lsOf { y with pos := p } st W (fV gd (divr y.org)) q.val) (p := d) (hw'.1.sub (List.Sublist.cons_cons _ (List.Sublist.cons_cons _ (List.nil_sublist _)))) (fresh_byt hw'.1 (.tail _ (.tail _ (.tail _ (.tail _ (.tail _ (.head _))))))) hX.sz he) ?_; rw [hP])))))
      exact fin hk ⟨rfl, rfl, rfl, rfl, rfl, trivial⟩ rfl
    · have hp3 := pre_len hP
      rw [hd3, List.length_drop] at hp3
      have he3 : p + 3 ≤ H.s.length := by omega
      have hSe := hSp
      have e1 : r = (ign (mv (crlf (H.s.drop (p + 3))) (mv 3 (emitL H.s ty { y with pos := p }))), some .main) := by
        rw [hr, hb, ← hpy, fr0_t hP]
        dsimp only
        rw [← emitL_n H.s _ hty]
        unfold mv ign
        dsimp only
        rw [← hpy, Nat.add_zero, Nat.add_assoc p 3]
      rw [e1]
      have hcl := crlf_le (H.s.drop (p + 3))
      rw [List.length_drop] at hcl
      repeat' (first | refine cseq ?_ | refine rtext ?_ | refine ctrue rfl ?_ | refine cfalse rfl ?_ | refine cskip ?_ | refine cblk ?_ | refine cret ?_ | refine cexit ?_ | refine jnil ?_ | (first | refine js rfl rfl ?_ | refine jmv rfl rfl rfl ?_ | refine jy (ynil rfl) rfl rfl ?_ | (show Jo _ (.fieldAddr _ _ _); refine jy (yfield rfl fb110_3 rfl) rfl rfl ?_) | (show Jo _ (.load _ _); refine jy (yload (i := 0) rfl rfl rfl one3) rfl rfl ?_) | refine jas_ rfl rfl rfl ?_ | (show Jo _ (.binOp _ _ _ _ _); (refine jy (yadd (c := ((p + 3 : Nat) : Int)) rfl rfl ((i64_in (by (try dsimp only [lsOf, mv, ign, emitL]); omega) (by (try dsimp only [lsOf, mv, ign, emitL]); omega)).trans (by (try dsimp only [lsOf, mv, ign, emitL]); omega))) rfl rfl ?_)) | (show Jo _ (.store _ _ _); refine jstore (i := 0) rfl rfl rfl rfl rfl si3 hX.mL ?_) | (show Jo _ (.pick _ _ _); refine jy (ypick1 rfl rfl) rfl rfl ?_) | refine jy (ynot rfl rfl) rfl rfl ?_ | (show Jo _ (.call _); first | (show Jo (some 49) (.call _); refine jcallq (v := .bool (d.isPrefixOf (H.s.drop p))) bo115 rfl rfl rfl (quietC fun w' hw' => hasPrefix_calls (l := lsOf { y with pos := p } st W (fV gd (divr y.org)) q.val) (p := d) (hw'.1.sub (List.Sublist.cons_cons _ (List.Sublist.cons_cons _ (List.nil_sublist _)))) (fresh_byt hw'.1 (.tail _ (.tail _ (.tail _ (.tail _ (.tail _ (.head _))))))) hX.sz he) ?_; rw [hP]) | (show Jo (some 52) (.call _); refine jcall (ι := RS) (vs := [pL H, .int .i64 ty]) (v := fun _ => .tuple #[]) (m' := fun q' => cM H (emitL H.s ty { y with pos := p }) st W gd q' (fB gf d :: F) G) (fun q' => StOk _ H (emitL H.s ty { y with pos := p }) q' G) bo116 rfl rfl rfl (emit_st hX hSe st _ W (by (try dsimp only [lsOf, mv, ign, emitL]); omega) ty) (fun q1 hS1 => ?_)) | (show Jo (some 61) (.call _); refine jcall (ι := Nat) (v := fun _ => .bool (decide (0 < crlf (H.s.drop (p + 3))))) (m' := fun V2 => cM H (mv (crlf (H.s.drop (p + 3))) (mv 3 (emitL H.s ty { y with pos := p }))) st V2 gd q1 (fB gf d :: F) G) (fun _ => True) bo113 rfl rfl rfl (crlf_st hX (mv 3 (emitL H.s ty { y with pos := p })) st _ _ _ he3) (fun V2 _ => ?_)) | (show Jo (some 63) (.call _); refine jcall0 (v := .tuple #[]) (cM H (ign (mv (crlf (H.s.drop (p + 3))) (mv 3 (emitL H.s ty { y with pos := p })))) st V2 gd q1 (fB gf d :: F) G) bo114 rfl rfl rfl (ign_st hX (mv (crlf (H.s.drop (p + 3))) (mv 3 (emitL H.s ty { y with pos := p }))) st _ _ _) ?_))))
      exact ret1 rfl rfl rfl (fun w' hw' => ⟨q1, V2, G, rfl, hw.up hw', (StOk.up hw hS1).mv rfl (by (try dsimp only [lsOf, mv, ign, emitL]); omega) (Nat.le_refl _)⟩)
set_option maxHeartbeats 2000000 in
theorem fence_calls {X : Cx} {H : Hd} {F G : Mem} (hX : Ok X H) {x : Lx} {q : RS} (hS : StOk X H x q G) (hf : x.items.length < 999999999000) (st : Value) (nm : ByteArray) (W gd gf ty : Nat) (hty : ty ≠ 18) (c : UInt8) (hc : c.toNat < 128) : ∀ w, Cl X (cM H x st W gd q (fB gf [c, c, c] :: F) G) w →
    Calls Tryz.prog 74 #[pL H, .int .i64 ty, .int .i32 (c.toNat : Int), .string nm, fV gf [c, c, c]] w (SR X H st gd (fB gf [c, c, c] :: F) (fence H.s c ty x)) := by
  intro w hw
  refine enterC 64 hw Tryz.func74 rfl rfl (vs := [pL H, .int .i64 ty, .int .i32 (c.toNat : Int), .string nm, fV gf [c, c, c]]) rfl ?_
  replace hX := hX.sub hw 64
  replace hS := hS.sub 64 w
  have hbig := hX.big
  have hs0 := hS.s
  have hfe := fence_eq H.s c hc ty x
  generalize fence H.s c ty x = r at hfe ⊢
  obtain ⟨cv, hcv⟩ : ∃ cv : Int, cv = (c.toNat : Int) := ⟨_, rfl⟩
  rw [← hcv] at hfe ⊢
  conv => arg 2; arg 2; whnf
  repeat' ((fail_if_success (show PJ _ (Code.wp _ (Code.seq (Code.region 9 _ _) _) _) _ _)); (first | refine cseq ?_ | refine rtext ?_ | refine cblk ?_ | refine jnil ?_ | (first | refine jmv rfl rfl rfl ?_ | refine jas_ rfl rfl rfl ?_)))
  refine fin (f' := [(0, pL H), (1, .int .i64 ty), (2, .int .i32 cv), (3, .string nm), (4, fV gf [c, c, c]), (14, .int .i64 (0 : Nat))]) (m' := cM H { x with pos := x.pos } st W gd q (fB gf [c, c, c] :: F) G)
    (cloop (ι := Nat × Nat) (fun u => [(0, pL H), (1, .int .i64 ty), (2, .int .i32 cv), (3, .string nm), (4, fV gf [c, c, c]), (14, .int .i64 (u.1 : Nat))]) (fun u => cM H { x with pos := x.pos + u.1 } st u.2 gd q (fB gf [c, c, c] :: F) G) (fun n u => n = 2 - u.1 ∧ u.1 ≤ 2 ∧ x.pos + u.1 ≤ H.s.length ∧ ∀ j, j < u.1 → rn (H.s.drop (x.pos + j)) = cv) 2 (0, W) ⟨rfl, Nat.zero_le _, hS.p, fun j hj => absurd hj (Nat.not_lt_zero _)⟩ ?_) ⟨rfl, rfl, rfl, rfl, rfl, rfl, trivial⟩ rfl
  rintro n ⟨k, W⟩ ⟨rfl, hk2, hpk, hall⟩ K hK
  dsimp only at hk2 hpk hall ⊢
  obtain ⟨p, hpe⟩ : ∃ p, p = x.pos + k := ⟨_, rfl⟩
  rw [← hpe] at hpk ⊢
  have hp := hpk
  have hwl := wd_rest hp
  by_cases hlt : k < 2
  · have hSq : StOk (X.sub 64 w) H (mv (wd (H.s.drop p)) { x with pos := p }) q G := hS.mv rfl hwl (by (try dsimp only [lsOf, mv, ign, emitL]); omega)
    rcases Decidable.em (rn (H.s.drop p) = cv) with hrc | hrc
    · have hw1 : wd (H.s.drop p) = 1 := wd_rn hc (by rw [hrc, hcv])
      have hkk := hK (2 - (k + 1)) (k + 1, 1) (by omega) ⟨rfl, by omega, by dsimp only; rw [hw1] at hwl; omega, fun j hj => by
        rcases Nat.lt_or_ge j k with h | h
        · exact hall j h
        · dsimp only at hj; rw [show x.pos + j = p by omega]; exact hrc⟩
      repeat' ((fail_if_success (show PJ _ (Code.wp _ (Code.seq (Code.region 9 _ _) _) _) _ _)); (first | refine cseq ?_ | refine rtext ?_ | refine ctrue rfl ?_ | refine cfalse rfl ?_ | refine cskip ?_ | refine cblk ?_ | refine tnorm ?_ | refine jnil ?_ | (first | refine jmv rfl rfl rfl ?_ | refine jas_ rfl rfl rfl ?_ | (show Jo _ (.binOp _ _ _ _ _); first | (show Jo _ (.binOp .neq _ _ _ _); refine jy (yneq rfl rfl (by (exact decide_eq_false (by omega)))) rfl rfl ?_) | refine jy (yadd (c := ((k + 1 : Nat) : Int)) rfl rfl ((i64_in (by omega) (by omega)).trans (by omega))) rfl rfl ?_ | refine jy (ylss rfl rfl (by (exact decide_eq_true (by omega)))) rfl rfl ?_) | (show Jo _ (.call _); ((show Jo (some 17) (.call _); refine jcall0 (v := .int .i32 (rn (H.s.drop p))) (cM H (mv (wd (H.s.drop p)) { x with pos := p }) st (wd (H.s.drop p)) gd q (fB gf [c, c, c] :: F) G) bo93 rfl rfl rfl (next_st hX { x with pos := p } st W _ _ hp) ?_))))))
      rw [hw1]
      refine pmem (m' := cM H { x with pos := x.pos + (k + 1) } st 1 gd q (fB gf [c, c, c] :: F) G) ?_ (fin hkk ⟨rfl, rfl, rfl, rfl, rfl, rfl, trivial⟩ rfl)
      show cM H { x with pos := x.pos + (k + 1) } st 1 gd q (fB gf [c, c, c] :: F) G = cM H { x with pos := p + 1 } st 1 gd q (fB gf [c, c, c] :: F) G
      rw [hpe, Nat.add_assoc]
    · have e1 : r = (errI (mv (wd (H.s.drop p)) { x with pos := p }), none) := by
        rw [hfe]
        rcases Nat.lt_or_ge 0 k with h | h
        · have hk1 : k = 1 := by omega
          subst hk1
          have h0 := hall 0 (by omega)
          rw [Nat.add_zero] at h0
          rw [if_pos h0, ← hpe, if_neg hrc, hpe]
          unfold fail mv
          dsimp only
          rw [Nat.add_assoc]
        · have hk0 : k = 0 := by omega
          subst hk0
          rw [Nat.add_zero] at hpe
          rw [hpe] at hrc
          rw [if_neg hrc, hpe]
          rfl
      rw [e1]
      repeat' ((fail_if_success (show PJ _ (Code.wp _ (Code.seq (Code.region 9 _ _) _) _) _ _)); (first | refine cseq ?_ | refine rtext ?_ | refine ctrue rfl ?_ | refine cskip ?_ | refine cblk ?_ | refine cret ?_ | refine tret ?_ | refine bret ?_ | refine jnil ?_ | (first | refine jmv rfl rfl rfl ?_ | refine jas_ rfl rfl rfl ?_ | (show Jo _ (.binOp _ _ _ _ _); first | (show Jo _ (.binOp .neq _ _ _ _); refine jy (yneq rfl rfl (by (exact decide_eq_true (by omega)))) rfl rfl ?_) | refine jy (ylss rfl rfl (by (exact decide_eq_true (by omega)))) rfl rfl ?_) | (show Jo _ (.call _); first | (show Jo (some 17) (.call _); refine jcall0 (v := .int .i32 (rn (H.s.drop p))) (cM H (mv (wd (H.s.drop p)) { x with pos := p }) st (wd (H.s.drop p)) gd q (fB gf [c, c, c] :: F) G) bo93 rfl rfl rfl (next_st hX { x with pos := p } st W _ _ hp) ?_) | (show Jo (some 25) (.call _); refine jcall (ι := RS) (v := fun _ => .nilFunc) (m' := fun q' => cM H (errI (mv (wd (H.s.drop p)) { x with pos := p })) st (wd (H.s.drop p)) gd q' (fB gf [c, c, c] :: F) G) (fun q' => StOk _ H (errI (mv (wd (H.s.drop p)) { x with pos := p })) q' G) bo112 rfl rfl rfl (err_st hX hSq st _ _ (by (try dsimp only [lsOf, mv, ign, emitL]); omega) _ _) (fun q1 hS1 => ?_))) | (show Jo _ (.makeInterface 9 _); refine jy (ymkI rfl co9) rfl rfl ?_) | (show Jo _ (.buildSlice 130 _ _); refine jlitN (n := 1) (vs := [.iface 9 _]) rfl rfl rfl rfl gr153 rfl rfl rfl rfl (fun gz hTz => ?_); refine jless (List.sublist_cons_self _ _) ?_))))
      exact ret1 rfl rfl rfl (fun w' hw' => ⟨q1, _, G, rfl, hw.up hw', StOk.up hw hS1⟩)
  · have hk0 : k = 2 := by omega
    subst hk0
    have hcl := crlf_le (H.s.drop p)
    rw [List.length_drop] at hcl
    have h2 := hall 0 (by omega)
    have h3 := hall 1 (by omega)
    rw [Nat.add_zero] at h2
    rw [if_pos h2, if_pos h3, ← hpe, show x.pos + (2 + crlf (H.s.drop p)) = p + crlf (H.s.drop p) by omega] at hfe
    repeat' ((fail_if_success (show PJ _ (Code.wp _ (Code.seq (Code.region 9 _ _) _) _) _ _)); (first | refine cseq ?_ | refine rtext ?_ | refine cfalse rfl ?_ | refine cexit ?_ | refine jnil ?_ | (first | refine jmv rfl rfl rfl ?_ | refine jas_ rfl rfl rfl ?_ | (show Jo _ (.binOp _ _ _ _ _); refine jy (ylss rfl rfl (by (exact decide_eq_false (by omega)))) rfl rfl ?_) | (show Jo _ (.call _); first | (show Jo (some 28) (.call _); refine jcall (ι := Nat) (v := fun _ => .bool (decide (0 < crlf (H.s.drop p)))) (m' := fun V2 => cM H (mv (crlf (H.s.drop p)) { x with pos := p }) st V2 gd q (fB gf [c, c, c] :: F) G) (fun _ => True) bo113 rfl rfl rfl (crlf_st hX { x with pos := p } st _ _ _ hp) (fun V2 _ => ?_)) | (show Jo (some 30) (.call _); refine jcall0 (v := .tuple #[]) (cM H (ign (mv (crlf (H.s.drop p)) { x with pos := p })) st V2 gd q (fB gf [c, c, c] :: F) G) bo114 rfl rfl rfl (ign_st hX (mv (crlf (H.s.drop p)) { x with pos := p }) st _ _ _) ?_)))))
    refine fin (m' := cM H (ign (mv (crlf (H.s.drop p)) { x with pos := p })) st V2 gd q (fB gf [c, c, c] :: F) G) (fence9 rfl hw hX (hS.mv (y := ign (mv (crlf (H.s.drop p)) { x with pos := p })) rfl (by (try dsimp only [lsOf, mv, ign, emitL]); omega) (Nat.le_refl _)) (by dsimp only [ign, mv]; omega) st (.string nm) V2 gd gf ty hty [c, c, c] rfl (decide (0 < crlf (H.s.drop p))) r ?_ ⟨_, rfl⟩) ⟨rfl, rfl, rfl, rfl, rfl, trivial⟩ rfl
    rw [hfe]
    have e5 : ign (mv (2 + crlf (H.s.drop p)) x) = ign (mv (crlf (H.s.drop p)) { x with pos := p }) := by
      unfold ign mv
      dsimp only
      rw [show x.pos + (2 + crlf (H.s.drop p)) = p + crlf (H.s.drop p) by omega]
    rw [e5]
    rfl
theorem bo67 : bodyB Tryz.prog 53 = true := by kernel_rfl
def jo : Option St → Bool
  | some .json => true
  | some .org => true
  | _ => false
def SRi (X : Cx) (H : Hd) (st : Value) (gd : Nat) (F : Mem) (r : Res) (e : Ending) (w' : World) : Prop := ∃ (q' : RS) (W : Nat) (G' : Mem), e = .returned (stV r.2) ∧ Cl X (cM H (if jo r.2 then mv 1 r.1 else r.1) st W gd q' F G') w' ∧ StOk X H r.1 q' G' ∧ (jo r.2 = true → W = 1)
theorem fence_st {s : T} {c : UInt8} {ty : Nat} {x : Lx} : jo (fence s c ty x).2 = false := by
  unfold fence
  split
  · split
    · split
      · dsimp only
        split <;> rfl
      · rfl
    · rfl
  · split <;> rfl
  · rfl
set_option maxHeartbeats 2000000 in
theorem intro_calls {X : Cx} {H : Hd} {F G : Mem} (hX : Ok X H) {x : Lx} {q : RS} (hS : StOk X H x q G) (hf : x.items.length < 999999990000) (st : Value) (W gd : Nat) : ∀ w, Cl X (cM H x st W gd q F G) w → Calls Tryz.prog 53 #[pL H] w (SRi X H st gd F (intro H.s x)) := by
  intro w hw
  refine enterC 37 hw Tryz.func53 rfl rfl (vs := [pL H]) rfl ?_
  replace hX := hX.sub hw 37
  replace hS := hS.sub 37 w
  have hs0 := hS.s
  conv => arg 2; arg 2; whnf
  repeat' (first | refine cseq ?_ | refine rtext ?_ | refine cblk ?_ | refine cscope ?_ | refine clabel ?_ | refine jnil ?_ | ((refine jas_ rfl rfl rfl ?_)))
  refine fin (f' := [(0, pL H)]) (m' := cM H { x with pos := x.pos } st W gd q F G)
    (cloop (ι := Nat × Nat) (fun u => [(0, pL H)]) (fun u => cM H { x with pos := u.1 } st u.2 gd q F G) (fun n u => n = H.s.length - u.1 ∧ u.1 ≤ H.s.length ∧ x.pos ≤ u.1 ∧ x.pos + spN (H.s.drop x.pos) = u.1 + spN (H.s.drop u.1)) (H.s.length - x.pos) (x.pos, W) ⟨rfl, hS.p, Nat.le_refl _, rfl⟩ ?_) ⟨rfl, trivial⟩ rfl
  rintro n ⟨p, W⟩ ⟨rfl, hp, hxp, hsp⟩ K hK
  dsimp only at hp hxp hsp ⊢
  have hwl := wd_rest hp
  have hst := spN_step (H.s.drop p)
  have hSq : StOk (X.sub 37 w) H (mv (wd (H.s.drop p)) { x with pos := p }) q G := hS.mv rfl hwl (by (try dsimp only [lsOf, mv, ign, emitL]); omega)
  have e0 : ∀ c rr, H.s.drop p = c :: rr → isSp c.toNat = false → intro H.s x = if c = 43 then fence H.s 43 4 (mv 1 { x with pos := p }) else if c = 45 then fence H.s 45 3 (mv 1 { x with pos := p }) else if c = 123 then ({ x with pos := p }, some .json) else if c = 35 then ({ x with pos := p }, some .org) else (mv (wd (c :: rr)) { x with pos := p }, some .main) := fun c rr hcr hcs => by
    have hz : spN (H.s.drop p) = 0 := by rw [hcr]; unfold spN; rw [if_neg (by rw [hcs]; simp)]
    have hy : mv (spN (H.s.drop x.pos)) x = { x with pos := p } := by unfold mv; rw [hsp, hz, Nat.add_zero]
    unfold intro
    dsimp only
    rw [hy]
    dsimp only
    rw [hcr]
  cases hd : H.s.drop p with
  | nil =>
    have hrn : rn (H.s.drop p) = -1 := by rw [hd]; rfl
    have hw0 : wd (H.s.drop p) = 0 := by rw [hd]; rfl
    have e1 : intro H.s x = ({ x with pos := p }, some .main) := by
      have hz : spN (H.s.drop p) = 0 := by rw [hd]; rfl
      have hy : mv (spN (H.s.drop x.pos)) x = { x with pos := p } := by unfold mv; rw [hsp, hz, Nat.add_zero]
      unfold intro
      dsimp only
      rw [hy]
      dsimp only
      rw [hd]
    rw [e1]
    repeat' (first | refine cseq ?_ | refine rtext ?_ | refine ctrue rfl ?_ | refine cblk ?_ | refine cret ?_ | refine cexit ?_ | (show PJ _ (Exit.noGoto _ _) _ _; (refine gret ?_)) | refine jnil ?_ | (first | refine jmv rfl rfl rfl ?_ | refine jas_ rfl rfl rfl ?_ | (show Jo _ (.binOp _ _ _ _ _); refine jy (yeql rfl rfl (by (exact decide_eq_true (by omega)))) rfl rfl ?_) | (show Jo _ (.call _); ((show Jo (some 5) (.call _); refine jcall0 (v := .int .i32 (rn (H.s.drop p))) (cM H (mv (wd (H.s.drop p)) { x with pos := p }) st (wd (H.s.drop p)) gd q F G) bo93 rfl rfl rfl (next_st hX { x with pos := p } st W _ _ hp) ?_; rw [hrn])))))
    refine ret1 rfl rfl rfl (fun w' hw' => ⟨q, 0, G, rfl, ?_, ?_, fun h => by cases h⟩)
    · have h1 := hw.up hw'
      rw [hw0] at h1
      exact h1
    · exact StOk.up hw (hS.mv rfl hp (by (try dsimp only [lsOf, mv, ign, emitL]); omega))
  | cons c rr =>
    have hne : H.s.drop p ≠ [] := by rw [hd]; simp
    have hwp := wd_pos hne
    have hge := rn_ge hne
    cases hB : isSpI (rn (H.s.drop p))
    · have hcs : isSp c.toNat = false := by rw [hd, isSpI_cons] at hB; exact hB
      have e0 := e0 c rr hd hcs
      have hEO : (rn (H.s.drop p) == 13 || rn (H.s.drop p) == 10) = false := by
        unfold isSpI at hB
        simp only [Bool.or_eq_false_iff, beq_eq_false_iff_ne] at hB ⊢
        exact ⟨hB.1.2, hB.1.1.1.1.2⟩
      have hlit : ∀ k : UInt8, k.toNat < 128 → (rn (H.s.drop p) = (k.toNat : Int)) = (c = k) := fun k hk => by rw [hd]; exact rn_lit c k rr hk
      have h43 := hlit 43 (by decide)
      have h45 := hlit 45 (by decide)
      have h123 := hlit 123 (by decide)
      have h35 := hlit 35 (by decide)
      by_cases c43 : c = 43
      · have hrn : rn (H.s.drop p) = 43 := by have := h43; rw [eq_true c43] at this; exact of_eq_true this
        have hw1 : wd (H.s.drop p) = 1 := wd_rn (k := 43) (by decide) hrn
        rw [if_pos c43, ← hw1] at e0
        rw [e0]
        repeat' (first | refine cseq ?_ | refine rtext ?_ | refine ctrue rfl ?_ | refine cfalse rfl ?_ | refine cskip ?_ | refine cblk ?_ | refine cret ?_ | refine tret ?_ | refine bret ?_ | (show PJ _ (Exit.noGoto _ _) _ _; (refine gret ?_)) | refine jnil ?_ | (first | refine jmv rfl rfl rfl ?_ | refine jas_ rfl rfl rfl ?_ | (show Jo _ (.binOp _ _ _ _ _); (refine jy (yeql rfl rfl (by first | exact decide_eq_true (by omega) | exact decide_eq_false (by omega))) rfl rfl ?_)) | (show Jo _ (.call _); first | (show Jo (some 5) (.call _); refine jcall0 (v := .int .i32 (rn (H.s.drop p))) (cM H (mv (wd (H.s.drop p)) { x with pos := p }) st (wd (H.s.drop p)) gd q F G) bo93 rfl rfl rfl (next_st hX { x with pos := p } st W _ _ hp) ?_; rw [hrn]) | (show Jo (some 13) (.call _); refine jcall (ι := Nat) (v := fun g => fV g [43, 43, 43]) (m' := fun g => fB g [43, 43, 43] :: cM H (mv (wd (H.s.drop p)) { x with pos := p }) st (wd (H.s.drop p)) gd q F G) (fun _ => True) bo95 rfl rfl rfl (freshM (fresh95 _)) (fun g _ => ?_)) | (show Jo (some 14) (.call _); refine jcall (ι := RS × Nat × Mem) (vs := [pL H, .int .i64 (4 : Nat), .int .i32 (43 : Int), .string _, fV g [43, 43, 43]]) (v := fun _ => stV (fence H.s 43 4 (mv (wd (H.s.drop p)) { x with pos := p })).2) (m' := fun u => cM H (fence H.s 43 4 (mv (wd (H.s.drop p)) { x with pos := p })).1 st u.2.1 gd u.1 F u.2.2) (fun u => StOk _ H (fence H.s 43 4 (mv (wd (H.s.drop p)) { x with pos := p })).1 u.1 u.2.2) bo94 rfl rfl rfl (fun w' hw' => (fence_calls (F := F) (gf := g) hX hSq (by (try dsimp only [lsOf, mv, ign, emitL]); omega) st _ _ _ _ (by decide) 43 (by decide) w' (hw'.perm (List.perm_middle (l₁ := [lB H (lsOf (mv (wd (H.s.drop p)) { x with pos := p }) st (wd (H.s.drop p)) (fV gd (divr x.org)) q.val), iB H, qB q, mB H x.op, fB gd (divr x.org)])).symm)).mono fun e w'' ⟨q', W', G', h1, h2, h3⟩ => ⟨(q', W', G'), h1, h2.less (List.Sublist.cons_cons _ (List.Sublist.cons_cons _ (List.Sublist.cons_cons _ (List.Sublist.cons_cons _ (List.Sublist.cons_cons _ (List.sublist_cons_self _ _)))))), h3⟩) (fun u hSu => ?_)))))
        exact ret1 rfl rfl rfl (fun w' hw' => ⟨u.1, u.2.1, u.2.2, rfl, by rw [fence_st]; exact hw.up hw', StOk.up hw hSu, fun h => by rw [fence_st] at h; cases h⟩)
      rw [if_neg c43] at e0
      have n43 : rn (H.s.drop p) ≠ 43 := fun h => c43 (by rw [← h43]; exact h)
      by_cases c45 : c = 45
      · have hrn : rn (H.s.drop p) = 45 := by have := h45; rw [eq_true c45] at this; exact of_eq_true this
        have hw1 : wd (H.s.drop p) = 1 := wd_rn (k := 45) (by decide) hrn
        rw [if_pos c45, ← hw1] at e0
        rw [e0]
        repeat' (first | refine cseq ?_ | refine rtext ?_ | refine ctrue rfl ?_ | refine cfalse rfl ?_ | refine cskip ?_ | refine cblk ?_ | refine cret ?_ | refine tret ?_ | refine bret ?_ | (show PJ _ (Exit.noGoto _ _) _ _; (refine gret ?_)) | refine jnil ?_ | (first | refine jmv rfl rfl rfl ?_ | refine jas_ rfl rfl rfl ?_ | (show Jo _ (.binOp _ _ _ _ _); (refine jy (yeql rfl rfl (by first | exact decide_eq_true (by omega) | exact decide_eq_false (by omega))) rfl rfl ?_)) | (show Jo _ (.call _); first | (show Jo (some 5) (.call _); refine jcall0 (v := .int .i32 (rn (H.s.drop p))) (cM H (mv (wd (H.s.drop p)) { x with pos := p }) st (wd (H.s.drop p)) gd q F G) bo93 rfl rfl rfl (next_st hX { x with pos := p } st W _ _ hp) ?_; rw [hrn]) | (show Jo (some 20) (.call _); refine jcall (ι := Nat) (v := fun g => fV g [45, 45, 45]) (m' := fun g => fB g [45, 45, 45] :: cM H (mv (wd (H.s.drop p)) { x with pos := p }) st (wd (H.s.drop p)) gd q F G) (fun _ => True) bo96 rfl rfl rfl (freshM (fresh96 _)) (fun g _ => ?_)) | (show Jo (some 21) (.call _); refine jcall (ι := RS × Nat × Mem) (vs := [pL H, .int .i64 (3 : Nat), .int .i32 (45 : Int), .string _, fV g [45, 45, 45]]) (v := fun _ => stV (fence H.s 45 3 (mv (wd (H.s.drop p)) { x with pos := p })).2) (m' := fun u => cM H (fence H.s 45 3 (mv (wd (H.s.drop p)) { x with pos := p })).1 st u.2.1 gd u.1 F u.2.2) (fun u => StOk _ H (fence H.s 45 3 (mv (wd (H.s.drop p)) { x with pos := p })).1 u.1 u.2.2) bo94 rfl rfl rfl (fun w' hw' => (fence_calls (F := F) (gf := g) hX hSq (by (try dsimp only [lsOf, mv, ign, emitL]); omega) st _ _ _ _ (by decide) 45 (by decide) w' (hw'.perm (List.perm_middle (l₁ := [lB H (lsOf (mv (wd (H.s.drop p)) { x with pos := p }) st (wd (H.s.drop p)) (fV gd (divr x.org)) q.val), iB H, qB q, mB H x.op, fB gd (divr x.org)])).symm)).mono fun e w'' ⟨q', W', G', h1, h2, h3⟩ => ⟨(q', W', G'), h1, h2.less (List.Sublist.cons_cons _ (List.Sublist.cons_cons _ (List.Sublist.cons_cons _ (List.Sublist.cons_cons _ (List.Sublist.cons_cons _ (List.sublist_cons_self _ _)))))), h3⟩) (fun u hSu => ?_)))))
        exact ret1 rfl rfl rfl (fun w' hw' => ⟨u.1, u.2.1, u.2.2, rfl, by rw [fence_st]; exact hw.up hw', StOk.up hw hSu, fun h => by rw [fence_st] at h; cases h⟩)
      rw [if_neg c45] at e0
      have n45 : rn (H.s.drop p) ≠ 45 := fun h => c45 (by rw [← h45]; exact h)
      have hSp : StOk (X.sub 37 w) H { x with pos := p } q G := hS.mv rfl hp (by (try dsimp only [lsOf, mv, ign, emitL]); omega)
      by_cases c123 : c = 123
      · have hrn : rn (H.s.drop p) = 123 := by have := h123; rw [eq_true c123] at this; exact of_eq_true this
        have hw1 : wd (H.s.drop p) = 1 := wd_rn (k := 123) (by decide) hrn
        rw [if_pos c123] at e0
        rw [e0]
        repeat' (first | refine cseq ?_ | refine rtext ?_ | refine ctrue rfl ?_ | refine cfalse rfl ?_ | refine cskip ?_ | refine cblk ?_ | refine cret ?_ | refine tret ?_ | refine bret ?_ | (show PJ _ (Exit.noGoto _ _) _ _; (refine gret ?_)) | refine jnil ?_ | (first | refine jmv rfl rfl rfl ?_ | refine jas_ rfl rfl rfl ?_ | (show Jo _ (.binOp _ _ _ _ _); (refine jy (yeql rfl rfl (by first | exact decide_eq_true (by omega) | exact decide_eq_false (by omega))) rfl rfl ?_)) | (show Jo _ (.call _); ((show Jo (some 5) (.call _); refine jcall0 (v := .int .i32 (rn (H.s.drop p))) (cM H (mv (wd (H.s.drop p)) { x with pos := p }) st (wd (H.s.drop p)) gd q F G) bo93 rfl rfl rfl (next_st hX { x with pos := p } st W _ _ hp) ?_; rw [hrn])))))
        refine ret1 rfl rfl rfl (fun w' hw' => ⟨q, 1, G, rfl, ?_, StOk.up hw hSp, fun _ => rfl⟩)
        have h1 := hw.up hw'
        rw [hw1] at h1
        exact h1
      rw [if_neg c123] at e0
      have n123 : rn (H.s.drop p) ≠ 123 := fun h => c123 (by rw [← h123]; exact h)
      by_cases c35 : c = 35
      · have hrn : rn (H.s.drop p) = 35 := by have := h35; rw [eq_true c35] at this; exact of_eq_true this
        have hw1 : wd (H.s.drop p) = 1 := wd_rn (k := 35) (by decide) hrn
        rw [if_pos c35] at e0
        rw [e0]
        repeat' (first | refine cseq ?_ | refine rtext ?_ | refine ctrue rfl ?_ | refine cfalse rfl ?_ | refine cskip ?_ | refine cblk ?_ | refine cret ?_ | refine tret ?_ | refine bret ?_ | (show PJ _ (Exit.noGoto _ _) _ _; (refine gret ?_)) | refine jnil ?_ | (first | refine jmv rfl rfl rfl ?_ | refine jas_ rfl rfl rfl ?_ | (show Jo _ (.binOp _ _ _ _ _); (refine jy (yeql rfl rfl (by first | exact decide_eq_true (by omega) | exact decide_eq_false (by omega))) rfl rfl ?_)) | (show Jo _ (.call _); ((show Jo (some 5) (.call _); refine jcall0 (v := .int .i32 (rn (H.s.drop p))) (cM H (mv (wd (H.s.drop p)) { x with pos := p }) st (wd (H.s.drop p)) gd q F G) bo93 rfl rfl rfl (next_st hX { x with pos := p } st W _ _ hp) ?_; rw [hrn])))))
        refine ret1 rfl rfl rfl (fun w' hw' => ⟨q, 1, G, rfl, ?_, StOk.up hw hSp, fun _ => rfl⟩)
        have h1 := hw.up hw'
        rw [hw1] at h1
        exact h1
      rw [if_neg c35] at e0
      have n35 : rn (H.s.drop p) ≠ 35 := fun h => c35 (by rw [← h35]; exact h)
      have hrn : rn (H.s.drop p) = rn (H.s.drop p) := rfl
      rw [← hd] at e0
      rw [e0]
      repeat' (first | refine cseq ?_ | refine rtext ?_ | refine ctrue rfl ?_ | refine cfalse rfl ?_ | refine cskip ?_ | refine cblk ?_ | refine cret ?_ | refine cexit ?_ | (show PJ _ (Exit.noGoto _ _) _ _; (refine gret ?_)) | refine jnil ?_ | (first | refine jmv rfl rfl rfl ?_ | refine jas_ rfl rfl rfl ?_ | (show Jo _ (.binOp _ _ _ _ _); refine jy (yeql rfl rfl (by (exact decide_eq_false (by omega)))) rfl rfl ?_) | (show Jo _ (.pick _ _ _); refine jy (ypick1 rfl rfl) rfl rfl ?_) | refine jy (ynot rfl rfl) rfl rfl ?_ | (show Jo _ (.call _); first | (show Jo (some 5) (.call _); refine jcall0 (v := .int .i32 (rn (H.s.drop p))) (cM H (mv (wd (H.s.drop p)) { x with pos := p }) st (wd (H.s.drop p)) gd q F G) bo93 rfl rfl rfl (next_st hX { x with pos := p } st W _ _ hp) ?_; rw [hrn]) | (show Jo (some 30) (.call _); refine jcallq bo99 rfl rfl rfl (quietC fun w' hw' => (space_calls _).mono fun e w'' h => ⟨h.1.trans (congrArg (fun b => Ending.returned (Value.bool b)) hB), h.2⟩) ?_) | (show Jo (some 34) (.call _); refine jcallq bo100 rfl rfl rfl (quietC fun w' hw' => (eol_calls _).mono fun e w'' h => ⟨h.1.trans (congrArg (fun b => Ending.returned (Value.bool b)) hEO), h.2⟩) ?_))))
      exact ret1 rfl rfl rfl (fun w' hw' => ⟨q, _, G, rfl, hw.up hw', StOk.up hw hSq, fun h => by cases h⟩)
    · have h6 : rn (H.s.drop p) ≠ 43 ∧ rn (H.s.drop p) ≠ 45 ∧ rn (H.s.drop p) ≠ 123 ∧ rn (H.s.drop p) ≠ 35 := by
        unfold isSpI at hB
        simp only [Bool.or_eq_true, beq_iff_eq] at hB
        omega
      obtain ⟨n43, n45, n123, n35⟩ := h6
      have hrn : rn (H.s.drop p) = rn (H.s.drop p) := rfl
      have hEO : True := trivial
      rw [if_pos hB, drop_wd] at hst
      have hk := hK (H.s.length - (p + wd (H.s.drop p))) (p + wd (H.s.drop p), wd (H.s.drop p)) (by dsimp only; omega) ⟨rfl, hwl, by dsimp only; omega, by dsimp only; omega⟩
      repeat' (first | refine cseq ?_ | refine rtext ?_ | refine cfalse rfl ?_ | refine cskip ?_ | refine cblk ?_ | refine tnorm ?_ | refine bnorm ?_ | refine jnil ?_ | (first | refine js rfl rfl ?_ | refine jmv rfl rfl rfl ?_ | refine jas_ rfl rfl rfl ?_ | (show Jo _ (.binOp _ _ _ _ _); refine jy (yeql rfl rfl (by (exact decide_eq_false (by omega)))) rfl rfl ?_) | (show Jo _ (.pick _ _ _); refine jy (ypick0 rfl rfl) rfl rfl ?_) | refine jy (ynot rfl rfl) rfl rfl ?_ | (show Jo _ (.call _); first | (show Jo (some 5) (.call _); refine jcall0 (v := .int .i32 (rn (H.s.drop p))) (cM H (mv (wd (H.s.drop p)) { x with pos := p }) st (wd (H.s.drop p)) gd q F G) bo93 rfl rfl rfl (next_st hX { x with pos := p } st W _ _ hp) ?_; rw [hrn]) | (show Jo (some 30) (.call _); refine jcallq bo99 rfl rfl rfl (quietC fun w' hw' => (space_calls _).mono fun e w'' h => ⟨h.1.trans (congrArg (fun b => Ending.returned (Value.bool b)) hB), h.2⟩) ?_))))
      exact fin hk ⟨rfl, trivial⟩ rfl
end Go.Proofs.YtkehggbmpdacpabGreatDoor.Pg
