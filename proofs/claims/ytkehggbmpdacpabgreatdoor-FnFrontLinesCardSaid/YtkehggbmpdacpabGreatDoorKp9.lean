/- The page laws: texts that all of them use, joined (part 9): Pg26, Pg27, Lex1, Lex2. -/
import Derived.Test.YtkehggbmpdacpabGreatDoorKp1
import Derived.Test.YtkehggbmpdacpabGreatDoorKp8
set_option maxRecDepth 100000
set_option linter.unusedVariables false
set_option linter.unusedSimpArgs false
set_option linter.unusedSectionVars false
namespace Go.Proofs.YtkehggbmpdacpabGreatDoor.Pg
open Go.Rx hiding bt
open Go.RowKit Go.Proofs.YtkehggbmpdacpabGreatDoor.Dec0 Go.Proofs.YtkehggbmpdacpabGreatDoor.Lex0
theorem bo134 : bodyB Tryz.prog 112 = true := by kernel_rfl
theorem bo137 : bodyB Tryz.prog 115 = true := by kernel_rfl
theorem bo142 : bodyB Tryz.prog 120 = true := by kernel_rfl
theorem bo143 : bodyB Tryz.prog 121 = true := by kernel_rfl
theorem jbytesG {X : Cx} {P : Program} {f : Fr} {m : Mem} {ty : TypeId} {pos : String} {af : Array Edge} {gd : Option (Nat × Bool)} {ops : Array Oper} {Q : Exit → Act → World → Prop} {K : Act → World → Prop} {rest : List Oper} {dd t t' e : Nat} {x : Operand} {s : ByteArray} (hw : wantedF ops f ⟨some dd, .convert t t' x, ty, pos, af, gd⟩ = some true) (hx : evF f x = some (.string s)) (hs : P.underlying t = some .string) (ht : P.underlying t' = some (.slice e)) (he : P.underlying e = some (.int .u8)) (hd : Nat.blt dd X.n = true)
    (h : ∀ (g cap : Nat) (r : List Value), X.w0.heap.size ≤ g → s.size ≤ cap → J false X P ops Q K rest ((dd, .slice (some ⟨g, 0, none⟩) s.size cap) :: f) ((g, bytesL s.data.toList ++ r, Bk.r e) :: m)) : J false X P ops Q K (⟨some dd, .convert t t' x, ty, pos, af, gd⟩ :: rest) f m := by
  refine jeff (ι := Nat × Nat × List Value) (v := fun q => .slice (some ⟨q.1, 0, none⟩) s.size q.2.1) (m' := fun q => (q.1, bytesL s.data.toList ++ q.2.2, Bk.r e) :: m) (fun q => X.w0.heap.size ≤ q.1 ∧ s.size ≤ q.2.1) hw hd (fun a w st => ?_) (fun q hq => h q.1 q.2.1 q.2.2 hq.1 hq.2)
  have hr := run_bytes_of_string (P := P) w t t' e s hs ht he
  refine ⟨⟨w.heap.size, grownCap w s.size 0 e, List.replicate (grownCap w s.size 0 e - s.size) (.int .u8 0)⟩, w.drew.alloc (.cells (bytesRow s (grownCap w s.size 0 e)) e ((bytesRow s (grownCap w s.size 0 e)).size, (bytesRow s (grownCap w s.size 0 e)).size + 1)), .inl ?_, ?_, ?_, st.evo.size, ?_⟩
  · simp [execOp, st.agr.eval hx, hr]
  · have h1 := (st.has.drawn (w.drawn + 1))
    rw [← drew_eq] at h1
    refine h1.pushO _ _ _ (fun w' h => ⟨((bytesRow s (grownCap w s.size 0 e)).size, (bytesRow s (grownCap w s.size 0 e)).size + 1), ?_⟩)
    have e2 : (bytesL s.data.toList ++ List.replicate (grownCap w s.size 0 e - s.size) (Value.int .u8 0)).toArray = bytesRow s (grownCap w s.size 0 e) := by
      apply Array.toList_inj.1
      simp [bytesRow, bytesL]
    rw [e2]
    exact h
  · have h1 := st.evo.drawn (w.drawn + 1)
    rw [← drew_eq] at h1
    exact h1.push _
  · have := grownCap_ge w s.size 0 e
    omega
theorem idxP_st {X : Cx} {H : Hd} {E : Mem} (hX : Ok X H) (l : LS) (hp : l.pos ≤ H.s.length) (g : Nat) (p : T) (hpl : p.length ≤ 1000) : ∀ w, Cl X (fB g p :: lB H l :: iB H :: E) w → Calls Tryz.prog 113 #[pL H, fV g p] w fun e w' => e = .returned (.int .i64 (idxI p (H.s.drop l.pos))) ∧ Cl X (lB H l :: iB H :: E) w' := fun w hw =>
  (lindex_calls (p := p) (hw.1.sub (List.Sublist.cons _ (List.Sublist.cons_cons _ (List.Sublist.cons_cons _ (List.nil_sublist _))))) (fresh_byt hw.1 (.head _)) hX.sz hX.big (by omega) hp).mono fun e w' h => ⟨h.1, (hw.below h.2).less (List.sublist_cons_self _ _)⟩
theorem skip1_calls {X : Cx} {H : Hd} {E : Mem} (hX : Ok X H) (l : LS) (hp : l.pos ≤ H.s.length) : ∀ w, Cl X (lB H l :: iB H :: E) w → Calls Tryz.prog 112 #[pL H] w fun e w' => e = .returned (.int .i64 (idxI lsc (H.s.drop l.pos))) ∧ Cl X (lB H l :: iB H :: E) w' := by
  intro w hw
  refine enterC 6 hw Tryz.func112 rfl rfl (vs := [pL H]) rfl ?_
  replace hX := hX.sub hw 6
  conv => arg 2; arg 2; whnf
  repeat' (first | refine cseq ?_ | refine rtext ?_ | refine cret ?_ | refine jnil ?_ | (first | refine jmv rfl rfl rfl ?_ | refine jas_ rfl rfl rfl ?_ | (show Jo _ (.call _); first | (show Jo (some 4) (.call _); refine jcall (ι := Nat) (v := fun g => fV g lsc) (m' := fun g => fB g lsc :: lB H l :: iB H :: E) (fun _ => True) bo136 rfl rfl rfl (freshM (fresh136 _)) (fun g _ => ?_)) | (show Jo (some 5) (.call _); refine jcall0 (v := .int .i64 (idxI lsc (H.s.drop l.pos))) (lB H l :: iB H :: E) bo135 rfl rfl rfl (idxP_st hX l hp g lsc (by decide)) ?_))))
  exact ret1 rfl rfl rfl (fun w' hw' => ⟨rfl, hw.up hw'⟩)
theorem divr_len (o : Bool) : (divr o).length ≤ 11 := by cases o <;> decide
theorem skip2_calls {X : Cx} {H : Hd} {F G : Mem} (hX : Ok X H) {x : Lx} {q : RS} (hp : x.pos ≤ H.s.length) (st : Value) (W gd : Nat) : ∀ w, Cl X (cM H x st W gd q F G) w → Calls Tryz.prog 120 #[pL H] w fun e w' => e = .returned (.int .i64 (if x.chk then -1 else idxI (divr x.org) (H.s.drop x.pos))) ∧ Cl X (cM H x st W gd q F G) w' := by
  intro w hw
  refine enterC 13 hw Tryz.func120 rfl rfl (vs := [pL H]) rfl ?_
  replace hX := hX.sub hw 13
  conv => arg 2; arg 2; whnf
  cases hc : x.chk
  · rw [if_neg (by simp)]
    have hcc : (lsOf x st W (fV gd (divr x.org)) q.val).chk = false := hc
    repeat' (first | (show PJ _ (Code.wp _ _ _) _ _; first | refine cseq ?_ | refine rtext ?_ | refine cskip ?_ | refine cret ?_ | refine csplit' rfl (fun hq => ?_) (fun hq => ?_)) | refine tret ?_ | refine jnil ?_ | (first | refine jmv rfl rfl rfl ?_ | refine jy (ynil rfl) rfl rfl ?_ | (show Jo _ (.fieldAddr _ _ _); refine jy (yfield rfl (by first | exact fb110_8 | exact fb110_9) rfl) rfl rfl ?_) | (show Jo _ (.load _ _); refine jy (yload (i := 0) rfl rfl rfl one3) rfl rfl ?_) | refine jas_ rfl rfl rfl ?_ | (show Jo _ (.call _); ((show Jo (some 12) (.call _); refine jcallq (v := .int .i64 (idxI (divr x.org) (H.s.drop x.pos))) bo135 rfl rfl rfl (quietC fun w' hw' => lindex_calls (l := lsOf x st W (fV gd (divr x.org)) q.val) (p := divr x.org) (hw'.1.sub (List.Sublist.cons_cons _ (List.Sublist.cons_cons _ (List.nil_sublist _)))) (fresh_byt hw'.1 (.tail _ (.tail _ (.tail _ (.tail _ (.head _)))))) hX.sz hX.big (by have := divr_len x.org; omega) hp) ?_)))))
    all_goals first | exact ret1 rfl rfl rfl (fun w' hw' => ⟨rfl, hw.up hw'⟩) | (exfalso; exact absurd (hq.symm.trans hcc) (by decide)) | (exfalso; rw [hcc] at hq; exact absurd hq (by decide))
  · rw [if_pos rfl]
    have hcc : (lsOf x st W (fV gd (divr x.org)) q.val).chk = true := hc
    repeat' (first | (show PJ _ (Code.wp _ _ _) _ _; first | refine cseq ?_ | refine rtext ?_ | refine cskip ?_ | refine cret ?_ | refine csplit' rfl (fun hq => ?_) (fun hq => ?_)) | refine tret ?_ | refine jnil ?_ | (first | refine jmv rfl rfl rfl ?_ | refine jy (ynil rfl) rfl rfl ?_ | (show Jo _ (.fieldAddr _ _ _); refine jy (yfield rfl (by first | exact fb110_8 | exact fb110_9) rfl) rfl rfl ?_) | (show Jo _ (.load _ _); refine jy (yload (i := 0) rfl rfl rfl one3) rfl rfl ?_) | refine jas_ rfl rfl rfl ?_ | (show Jo _ (.call _); ((show Jo (some 12) (.call _); refine jcallq (v := .int .i64 (idxI (divr x.org) (H.s.drop x.pos))) bo135 rfl rfl rfl (quietC fun w' hw' => lindex_calls (l := lsOf x st W (fV gd (divr x.org)) q.val) (p := divr x.org) (hw'.1.sub (List.Sublist.cons_cons _ (List.Sublist.cons_cons _ (List.nil_sublist _)))) (fresh_byt hw'.1 (.tail _ (.tail _ (.tail _ (.tail _ (.head _)))))) hX.sz hX.big (by have := divr_len x.org; omega) hp) ?_)))))
    all_goals first | exact ret1 rfl rfl rfl (fun w' hw' => ⟨rfl, hw.up hw'⟩) | (exfalso; exact hq hcc) | (exfalso; rw [hcc] at hq; exact absurd hq (by decide))
def lex2 (s : T) (x : Lx) : Option Lx := if (divr x.org).isPrefixOf (s.drop x.pos) then some (emit 2 { x with chk := true, pos := x.pos + (divr x.org).length + spN ((s.drop x.pos).drop (divr x.org).length) }) else none
set_option maxHeartbeats 1000000 in
theorem lex2_calls {X : Cx} {H : Hd} {F G : Mem} (hX : Ok X H) {x : Lx} {q : RS} (hS : StOk X H x q G) (hf : x.items.length < 999999999000) (o : Value) (st : Value) (W gd : Nat) : ∀ w, Cl X (cM H x st W gd q F G) w → Calls Tryz.prog 121 #[o, pL H] w fun e w' => match lex2 H.s x with
    | none => e = .returned (.tuple #[o, .bool false]) ∧ Cl X (cM H x st W gd q F G) w'
    | some y => ∃ (q' : RS) (V : Nat), e = .returned (.tuple #[o, .bool true]) ∧ Cl X (cM H y st V gd q' F G) w' ∧ StOk X H y q' G := by
  intro w hw
  refine enterC 34 hw Tryz.func121 rfl rfl (vs := [o, pL H]) rfl ?_
  replace hX := hX.sub hw 34
  replace hS := hS.sub 34 w
  have hs0 := hS.s
  have hbig := hX.big
  have hpp := hS.p
  conv => arg 2; arg 2; whnf
  cases hP : (divr x.org).isPrefixOf (H.s.drop x.pos)
  · have e1 : lex2 H.s x = none := by unfold lex2; rw [hP, if_neg (by simp)]
    rw [e1]
    repeat' (first | refine cseq ?_ | refine rtext ?_ | refine ctrue rfl ?_ | refine cret ?_ | refine tret ?_ | refine jnil ?_ | (first | refine jmv rfl rfl rfl ?_ | refine jy (ynil rfl) rfl rfl ?_ | (show Jo _ (.fieldAddr _ _ _); refine jy (yfield rfl fb110_8 rfl) rfl rfl ?_) | (show Jo _ (.load _ _); refine jy (yload (i := 0) rfl rfl rfl one3) rfl rfl ?_) | refine jas_ rfl rfl rfl ?_ | refine jy (ynot rfl rfl) rfl rfl ?_ | (show Jo _ (.call _); ((show Jo (some 11) (.call _); refine jcallq (v := .bool ((divr x.org).isPrefixOf (H.s.drop x.pos))) bo115 rfl rfl rfl (quietC fun w' hw' => hasPrefix_calls (l := lsOf x st W (fV gd (divr x.org)) q.val) (p := divr x.org) (hw'.1.sub (List.Sublist.cons_cons _ (List.Sublist.cons_cons _ (List.nil_sublist _)))) (fresh_byt hw'.1 (.tail _ (.tail _ (.tail _ (.tail _ (.head _)))))) hX.sz hS.p) ?_; rw [hP])))))
    exact ret2 rfl rfl rfl rfl (fun w' hw' => ⟨rfl, hw.up hw'⟩)
  · have hlen := pre_len hP
    rw [List.length_drop] at hlen
    have hdl := divr_len x.org
    have hpe : (x.pos + (divr x.org).length) ≤ H.s.length := by omega
    have hle := spN_le (H.s.drop (x.pos + (divr x.org).length))
    rw [List.length_drop] at hle
    have hsp1 : (x.pos + (divr x.org).length) + spN (H.s.drop (x.pos + (divr x.org).length)) ≤ H.s.length := by omega
    have hsp2 : x.start ≤ (x.pos + (divr x.org).length) + spN (H.s.drop (x.pos + (divr x.org).length)) := by omega
    have e1 : lex2 H.s x = some (emitL H.s 2 (mv (spN (H.s.drop (x.pos + (divr x.org).length))) ({ x with chk := true, pos := x.pos + (divr x.org).length } : Lx))) := by
      unfold lex2
      rw [hP, if_pos rfl, List.drop_drop, ← emitL_n H.s _ (by decide)]
      rfl
    rw [e1]
    repeat' (first | (show PJ _ (Code.wp _ _ _) _ _; first | refine cseq ?_ | refine rtext ?_ | refine cfalse rfl ?_ | refine cskip ?_ | refine cret ?_ | (show PJ _ (Code.wp _ (Code.region 4 _ true) _) _ _; refine rtail 12 mixed (by kernel_rfl) ?_)) | (show PJ _ (wpList _ _ _ _) _ _; refine jlist ?_) | refine jnil ?_ | (first | refine jmv rfl rfl rfl ?_ | refine jy (ynil rfl) rfl rfl ?_ | (show Jo _ (.fieldAddr _ _ _); refine jy (yfield rfl (by first | exact fb110_3 | exact fb110_8 | exact fb110_9) rfl) rfl rfl ?_) | (show Jo _ (.load _ _); refine jy (yload (i := 0) rfl rfl rfl one3) rfl rfl ?_) | refine jas_ rfl rfl rfl ?_ | (show Jo _ (.binOp _ _ _ _ _); (refine jy (yadd (c := ((x.pos + (divr x.org).length : Nat) : Int)) rfl rfl ((i64_in (by (try dsimp only [lsOf, mv, ign, emitL]); omega) (by (try dsimp only [lsOf, mv, ign, emitL]); omega)).trans (by (try dsimp only [lsOf, mv, ign, emitL]); omega))) rfl rfl ?_)) | (show Jo _ (.store _ _ _); refine jstore (i := 0) rfl rfl rfl rfl rfl si3 hX.mL ?_) | refine jy (ynot rfl rfl) rfl rfl ?_ | (show Jo _ (.call _); first | (show Jo (some 11) (.call _); refine jcallq (v := .bool ((divr x.org).isPrefixOf (H.s.drop x.pos))) bo115 rfl rfl rfl (quietC fun w' hw' => hasPrefix_calls (l := lsOf x st W (fV gd (divr x.org)) q.val) (p := divr x.org) (hw'.1.sub (List.Sublist.cons_cons _ (List.Sublist.cons_cons _ (List.nil_sublist _)))) (fresh_byt hw'.1 (.tail _ (.tail _ (.tail _ (.tail _ (.head _)))))) hX.sz hS.p) ?_; rw [hP]) | (show Jo (some 25) (.call ⟨.builtin .len, _, _⟩); refine jy (ylenl rfl und59) rfl rfl ?_) | (show Jo (some 30) (.call _); refine jcall (ι := Nat) (v := fun _ => .tuple #[]) (m' := fun V => cM H (mv (spN (H.s.drop (x.pos + (divr x.org).length))) ({ x with chk := true, pos := x.pos + (divr x.org).length } : Lx)) st V gd q F G) (fun _ => True) bo144 rfl rfl rfl (space_st hX ({ x with chk := true, pos := x.pos + (divr x.org).length } : Lx) st _ _ _ hpe) (fun V _ => ?_)) | (show Jo (some 32) (.call _); refine jcall (ι := RS) (vs := [pL H, .int .i64 (2 : Nat)]) (v := fun _ => .tuple #[]) (m' := fun q' => cM H (emitL H.s 2 (mv (spN (H.s.drop (x.pos + (divr x.org).length))) ({ x with chk := true, pos := x.pos + (divr x.org).length } : Lx))) st V gd q' F G) (fun q' => StOk _ H (emitL H.s 2 (mv (spN (H.s.drop (x.pos + (divr x.org).length))) ({ x with chk := true, pos := x.pos + (divr x.org).length } : Lx))) q' G) bo116 rfl rfl rfl (emit_st hX (hS.mv (y := mv (spN (H.s.drop (x.pos + (divr x.org).length))) ({ x with chk := true, pos := x.pos + (divr x.org).length } : Lx)) rfl hsp1 hsp2) st _ V (by (try dsimp only [lsOf, mv, ign, emitL]); omega) 2) (fun q1 hS1 => ?_)))))
    exact ret2 rfl rfl rfl rfl (fun w' hw' => ⟨q1, V, rfl, hw.up hw', StOk.up hw hS1⟩)
def lex1 (E : Env) (s : T) (x : Lx) : Option Res := if (lmd.isPrefixOf (s.drop x.pos) || lno.isPrefixOf (s.drop x.pos)) = true then (if (x.inl && !inlOk E ((s.drop x.pos).drop 3) x.name) = true then some (errI x, none) else some ({ x with md := lmd.isPrefixOf (s.drop x.pos) }, some .left)) else none
theorem haspN_calls {w : World} {vb : Value} {p : T} (hb : Byt w vb p) (hp : p ≠ []) : Calls Tryz.prog 110 #[.slice none 0 0, vb] w fun e w' => e = .returned (.bool false) ∧ Below w.heap.size w w' := by
  refine enter (fun _ => False) 18 [] Tryz.func110 rfl rfl rfl (vs := [.slice none 0 0, vb]) (Has.nil _) ?_
  have hpos := List.length_pos_iff.2 hp
  conv => arg 2; arg 2; whnf
  repeat' (first | refine cseq ?_ | refine rtext ?_ | refine cret ?_ | refine jnil ?_ | (first | refine js rfl rfl ?_ | refine jmv rfl rfl rfl ?_ | refine jas_ rfl rfl rfl ?_ | (show Jo _ (.binOp _ _ _ _ _); refine jy (ygeq rfl rfl (by (exact decide_eq_false (by omega)))) rfl rfl ?_) | (show Jo _ (.pick _ _ _); refine jy (ypick0 rfl rfl) rfl rfl ?_) | (show Jo _ (.call _); first | (show Jo (some 6) (.call ⟨.builtin .len, _, _⟩); refine jy (ylenl rfl und59) rfl rfl ?_) | (show Jo _ (.call ⟨.builtin .len, _, _⟩); refine jy (ylenW rfl hb und59) rfl rfl ?_))))
  exact ret1 rfl rfl rfl (fun w' hw' => ⟨rfl, hw'.2.below (fun k _ h => h) (Nat.le_refl _)⟩)
theorem haspS_calls {w : World} {va vb : Value} {l p : T} (ha : SlB w va l) (hb : Byt w vb p) (hp : p ≠ []) : Calls Tryz.prog 110 #[va, vb] w fun e w' => e = .returned (.bool (p.isPrefixOf l)) ∧ Below w.heap.size w w' := by
  rcases ha with ha | ⟨rfl, rfl⟩
  · exact hasp_calls ha hb
  · have h := haspN_calls hb hp
    have : p.isPrefixOf ([] : T) = false := by cases p with
      | nil => exact absurd rfl hp
      | cons a b => rfl
    rw [this]
    exact h
theorem SlB.below {w w' : World} {v : Value} {l : T} (h : SlB w v l) (hb : Below w.heap.size w w') : SlB w' v l := by
  rcases h with h | h
  · exact .inl (h.below hb (Nat.le_refl _))
  · exact .inr h
def envT : Env := envU trS
theorem nwS_cases (l : T) : (nwS l = -1 ∧ (l.drop (spN l)).head? ≠ some 47) ∨ (nwS l = (spN l : Int) ∧ (l.drop (spN l)).head? = some 47 ∧ spN l + 1 ≤ l.length) := by
  unfold nwS
  by_cases h : (l.drop (spN l)).head? = some 47
  · rw [if_pos h]
    refine .inr ⟨rfl, h, ?_⟩
    cases hd : l.drop (spN l) with
    | nil => rw [hd] at h; cases h
    | cons a r => have := congrArg List.length hd; rw [List.length_drop, List.length_cons] at this; omega
  · rw [if_neg h]
    exact .inl ⟨rfl, h⟩
theorem byt_nm {m : Mem} {w : World} {nm : ByteArray} {g c : Nat} {rr : List Value} (hw : Has m w) (hm : (g, bytesL nm.data.toList ++ rr, Bk.r 5) ∈ m) (hc : nm.size ≤ c) : Byt w (.slice (some ⟨g, 0, none⟩) nm.size c) nm.data.toList := by
  have hs : nm.size = nm.data.toList.length := by rw [Array.length_toList]; rfl
  rw [hs] at hc ⊢
  exact Byt.cells (o := 0) hw hm (.inl rfl) hc (fun j x hj => by rw [Nat.zero_add, List.getElem?_append_left (by rw [bytesL_len]; exact (List.getElem?_eq_some_iff.1 hj).1)]; exact bytesL_get hj) rfl
theorem slV_inj {a b : Option Addr} {n n' c c' : Nat} (h : Value.slice a n c = Value.slice b n' c') : a = b ∧ n = n' ∧ c = c' := by cases h; exact ⟨rfl, rfl, rfl⟩
set_option maxHeartbeats 2000000 in
theorem lex1_calls {X : Cx} {H : Hd} {F G : Mem} (hX : Ok X H) {x : Lx} {q : RS} (hS : StOk X H x q G) (hf : x.items.length < 999999999000) (hnl : x.name.size ≤ 4611686018427387904) (o : Value) (st : Value) (W gd : Nat) : ∀ w, Cl X (cM H x st W gd q F G) w → Calls Tryz.prog 115 #[o, pL H] w fun e w' => match lex1 envT H.s x with
    | none => e = .returned (.tuple #[o, .bool false]) ∧ Cl X (cM H x st W gd q F G) w'
    | some r => ∃ (q' : RS), e = .returned (.tuple #[stV r.2, .bool true]) ∧ Cl X (cM H r.1 st W gd q' F G) w' ∧ StOk X H r.1 q' G := by
  intro w hw
  refine enterC 77 hw Tryz.func115 rfl rfl (vs := [o, pL H]) rfl ?_
  replace hX := hX.sub hw 77
  replace hS := hS.sub 77 w
  have hbig := hX.big
  have hsz := hX.sz
  have hpp := hS.p
  conv => arg 2; arg 2; whnf
  cases hSt : (lmd.isPrefixOf (H.s.drop x.pos) || lno.isPrefixOf (H.s.drop x.pos))
  · have e1 : lex1 envT H.s x = none := by unfold lex1; rw [hSt, if_neg (by simp)]
    rw [e1]
    repeat' (first | refine cseq ?_ | refine rtext ?_ | refine ctrue rfl ?_ | refine cret ?_ | refine tret ?_ | refine jnil ?_ | (first | refine jmv rfl rfl rfl ?_ | refine jas_ rfl rfl rfl ?_ | refine jy (ynot rfl rfl) rfl rfl ?_ | (show Jo _ (.call _); ((show Jo (some 9) (.call _); refine jcall0 (v := .bool (lmd.isPrefixOf (H.s.drop x.pos) || lno.isPrefixOf (H.s.drop x.pos))) (cM H x st W gd q F G) bo138 rfl rfl rfl (isStart_calls hX (lsOf x st W (fV gd (divr x.org)) q.val) hS.p) ?_; rw [hSt])))))
    exact ret2 rfl rfl rfl rfl (fun w' hw' => ⟨rfl, hw.up hw'⟩)
  · have hp3 : x.pos + 3 ≤ H.s.length := by
      have : 3 ≤ (H.s.drop x.pos).length := by
        rw [Bool.or_eq_true] at hSt
        rcases hSt with h | h
        · exact pre_len h
        · exact pre_len h
      rw [List.length_drop] at this
      omega
    have e0 : lex1 envT H.s x = if (x.inl && !inlOk envT (H.s.drop (x.pos + 3)) x.name) = true then some (errI x, none) else some ({ x with md := lmd.isPrefixOf (H.s.drop x.pos) }, some .left) := by
      unfold lex1
      rw [hSt, if_pos rfl, List.drop_drop]
    rw [e0]
    have fin1 : ∀ (b : Bool), PJ (X.sub 77 w) (bodyPost Tryz.prog Tryz.f115 (fun e w' => ∃ (q' : RS), e = .returned (.tuple #[stV (some St.left), .bool true]) ∧ Cl X (cM H { x with md := b } st W gd q' F G) w' ∧ StOk X H { x with md := b } q' G) .ret) [(4, .func (.func 119) #[] #[]), (5, .bool true)] (cM H { x with md := b } st W gd q F G) := fun b =>
      ret2 rfl rfl rfl rfl (fun w' hw' => ⟨q, rfl, hw.up hw', (StOk.up hw hS).mv rfl hpp (StOk.up hw hS).s⟩)
    have hBy0 : ∀ {m : Mem} {w' : World}, Has m w' → iB H ∈ m → Byt w' (restV H (x.pos + 3)) (H.s.drop (x.pos + 3)) := fun h1 h2 => rest_byt h1 h2 hX.sz hp3
    have hw' : Cl (X.sub 77 w) (cM H x st W gd q F G) w := ⟨hw.1, Evo.refl _ _⟩
    obtain ⟨rb, ro, rc, hre, hrc, _⟩ := hBy0 hw.1 (.tail _ (.head _))
    obtain ⟨he1, he2, he3⟩ := slV_inj (show Value.slice (if H.cap = x.pos + 3 then some ⟨H.gI, 0, none⟩ else (some (⟨H.gI, 0, none⟩ : Addr)).map (·.add ((x.pos + 3) * 1))) (H.s.length - (x.pos + 3)) (H.cap - (x.pos + 3)) = .slice (some ⟨rb, ro, none⟩) (H.s.drop (x.pos + 3)).length rc from hre)
    have hBy : ∀ {w' : World}, Cl (X.sub 77 w) (cM H x st W gd q F G) w' → Byt w' (.slice (some ⟨rb, ro, none⟩) (H.s.drop (x.pos + 3)).length rc) (H.s.drop (x.pos + 3)) := fun h => hre ▸ hBy0 h.1 (.tail _ (.head _))
    have hBl : (H.s.drop (x.pos + 3)).length = H.s.length - (x.pos + 3) := List.length_drop ..
    have hB63 : (H.s.drop (x.pos + 3)).length ≤ 9223372036854775807 := by omega
    have hnsz : x.name.size + (⟨#[32]⟩ : ByteArray).size ≤ 9223372036854775807 := by
      have : (⟨#[32]⟩ : ByteArray).size = 1 := rfl
      omega
    obtain ⟨nm, hnm⟩ : ∃ nm, x.name ++ (⟨#[32]⟩ : ByteArray) = nm := ⟨_, rfl⟩
    have hnml : nm.data.toList = x.name.data.toList ++ [32] := by rw [← hnm]; simp
    have hnm0 : nm.data.toList ≠ [] := by rw [hnml]; simp
    obtain ⟨kk, hkk0, hkk⟩ : ∃ kk : Nat, (kk : Int) = nwS (H.s.drop (x.pos + 3)) + 1 ∧ kk ≤ (H.s.drop (x.pos + 3)).length := by
      rcases nwS_cases (H.s.drop (x.pos + 3)) with ⟨h1, _⟩ | ⟨h1, _, h2⟩
      · exact ⟨0, by rw [h1]; rfl, Nat.zero_le _⟩
      · exact ⟨spN (H.s.drop (x.pos + 3)) + 1, by rw [h1]; rfl, h2⟩
    have hkb : nwS (H.s.drop (x.pos + 3)) + 1 ≤ ((H.s.drop (x.pos + 3)).length : Int) := by omega
    obtain ⟨C, hC⟩ : ∃ C, C = (H.s.drop (x.pos + 3)).drop kk := ⟨_, rfl⟩
    have hCl : C.length = (H.s.drop (x.pos + 3)).length - kk := by rw [hC, List.length_drop]
    have hs0 := (hBy hw').sub kk ((H.s.drop (x.pos + 3)).length - kk) (by omega)
    rw [List.take_of_length_le (by rw [List.length_drop]; omega), ← hC, ← hCl] at hs0
    obtain ⟨rb2, ro2, rc2, hv2, _⟩ := hs0
    obtain ⟨hf1, hf2, hf3⟩ := slV_inj hv2
    have hf2 : (H.s.drop (x.pos + 3)).length - kk = C.length := hCl.symm
    have hBy2 : ∀ {w' : World}, Cl (X.sub 77 w) (cM H x st W gd q F G) w' → Byt w' (.slice (some ⟨rb2, ro2, none⟩) C.length rc2) C := fun h => by
      have h1 := (hBy h).sub kk ((H.s.drop (x.pos + 3)).length - kk) (by omega)
      rw [List.take_of_length_le (by rw [List.length_drop]; omega), ← hC, ← hCl, hf1, hf3] at h1
      exact h1
    have hIO : inlOk envT (H.s.drop (x.pos + 3)) x.name = (decide (nwS (H.s.drop (x.pos + 3)) ≠ -1) && nm.data.toList.isPrefixOf (trS C)) := by
      unfold inlOk
      rcases nwS_cases (H.s.drop (x.pos + 3)) with ⟨h1, h2⟩ | ⟨h1, h2, _⟩
      · rw [show (((H.s.drop (x.pos + 3)).drop (spN (H.s.drop (x.pos + 3)))).head? == some 47) = false from by simpa using h2, h1]; rfl
      · have hk : kk = spN (H.s.drop (x.pos + 3)) + 1 := by omega
        rw [h2, hnml, hC, hk, decide_eq_true (show nwS (H.s.drop (x.pos + 3)) ≠ -1 by omega)]
        rfl
    rcases (Bool.eq_false_or_eq_true x.inl).symm with hI | hI
    · have hcc : (lsOf x st W (fV gd (divr x.org)) q.val).inl = false := hI
      rw [show (x.inl && !inlOk envT (H.s.drop (x.pos + 3)) x.name) = false from by rw [hI]; rfl, if_neg (by simp)]
      dsimp only
      cases hM : lmd.isPrefixOf (H.s.drop x.pos)
      all_goals
        have hH : True := trivial
        repeat' (first | refine cfalse (congrArg (fun b => some (Value.bool b)) hcc) ?_ | first | refine cseq ?_ | refine rtext ?_ | refine ctrue rfl ?_ | refine cfalse rfl ?_ | refine cskip ?_ | refine cret ?_ | refine jnil ?_ | (first | refine jmv rfl rfl rfl ?_ | refine jy (ynil rfl) rfl rfl ?_ | (show Jo _ (.fieldAddr _ _ _); refine jy (yfield rfl (by first | exact fb110_0 | exact fb110_10 | exact fb108_1 | exact fb108_2) rfl) rfl rfl ?_) | (show Jo _ (.load _ _); refine jy (yload (i := 0) rfl rfl rfl one3) rfl rfl ?_) | refine jas_ rfl rfl rfl ?_ | (show Jo _ (.store _ _ _); refine jstore (i := 0) rfl rfl rfl rfl rfl si85 hX.mL ?_) | refine jy (ynot rfl rfl) rfl rfl ?_ | (show Jo _ (.call _); first | (show Jo (some 9) (.call _); refine jcall0 (v := .bool (lmd.isPrefixOf (H.s.drop x.pos) || lno.isPrefixOf (H.s.drop x.pos))) (cM H x st W gd q F G) bo138 rfl rfl rfl (isStart_calls hX (lsOf x st W (fV gd (divr x.org)) q.val) hS.p) ?_; rw [hSt]) | (show Jo (some 59) (.call _); refine jcall (ι := Nat) (v := fun g => fV g lmd) (m' := fun g => fB g lmd :: cM H x st W gd q F G) (fun _ => True) bo140 rfl rfl rfl (freshM (fresh140 _)) (fun g _ => ?_)) | (show Jo (some 60) (.call _); refine jcall0 (v := .bool (lmd.isPrefixOf (H.s.drop x.pos))) (cM H x st W gd q F G) bo115 rfl rfl rfl (hasP_st hX (lsOf x st W (fV gd (divr x.org)) q.val) hS.p g lmd) ?_; rw [hM]))))
        first | exact fin (f' := [(4, .func (.func 119) #[] #[]), (5, .bool true)]) (m' := cM H { x with md := true } st W gd q F G) (fin1 true) ⟨rfl, rfl, trivial⟩ rfl | exact fin (f' := [(4, .func (.func 119) #[] #[]), (5, .bool true)]) (m' := cM H { x with md := false } st W gd q F G) (fin1 false) ⟨rfl, rfl, trivial⟩ rfl
    · have hcc : (lsOf x st W (fV gd (divr x.org)) q.val).inl = true := hI
      rw [show (x.inl && !inlOk envT (H.s.drop (x.pos + 3)) x.name) = !inlOk envT (H.s.drop (x.pos + 3)) x.name from by rw [hI]; rfl, hIO]
      rcases Decidable.em (nwS (H.s.drop (x.pos + 3)) = -1) with hm1 | hm1
      · rw [decide_eq_false (fun h => h hm1), Bool.false_and, Bool.not_false, if_pos rfl]
        dsimp only
        have hH : True := trivial
        have hM : True := trivial
        repeat' (first | refine ctrue (congrArg (fun b => some (Value.bool b)) hcc) ?_ | first | (show PJ _ (Code.wp _ _ _) _ _; first | refine cseq ?_ | refine rtext ?_ | refine ctrue rfl ?_ | refine cfalse rfl ?_ | refine cskip ?_ | refine cret ?_ | refine rquiet mixed (by kernel_rfl) ?_) | refine tret ?_ | refine jnil ?_ | (first | refine js rfl rfl ?_ | refine jmv rfl rfl rfl ?_ | refine jy (ynil rfl) rfl rfl ?_ | (show Jo _ (.fieldAddr _ _ _); refine jy (yfield rfl (by first | exact fb110_0 | exact fb110_3 | exact fb110_10 | exact fb108_2) rfl) rfl rfl ?_) | (show Jo _ (.load _ _); refine jy (yload (i := 0) rfl rfl rfl one3) rfl rfl ?_) | refine jas_ rfl rfl rfl ?_ | (show Jo _ (.binOp _ _ _ _ _); first | (show Jo (some 25) _; refine jy (yadd (c := ((x.pos + 3 : Nat) : Int)) rfl rfl ((i64_in (by (try dsimp only [lsOf, mv, ign, emitL]); omega) (by (try dsimp only [lsOf, mv, ign, emitL]); omega)).trans (by (try dsimp only [lsOf, mv, ign, emitL]); omega))) rfl rfl ?_) | (show Jo (some 35) _; refine jy (ysub (c := (H.s.length : Int) - 1) rfl rfl (i64_in (by omega) (by omega))) rfl rfl ?_) | (show Jo (some 36) _; refine jy (yneq (c := true) rfl rfl (decide_eq_true (by omega))) rfl rfl ?_) | (show Jo (some 39) _; refine jy (yadd (c := ((kk : Nat) : Int)) rfl rfl ((i64_in (by omega) (by omega)).trans (by omega))) rfl rfl ?_) | refine jy (yeql rfl rfl (by (exact decide_eq_true (by omega)))) rfl rfl ?_) | (show Jo _ (.pick _ _ _); refine jy (ypick1 rfl rfl) rfl rfl ?_) | refine jy (ynot rfl rfl) rfl rfl ?_ | (show Jo _ (.call _); first | (show Jo (some 9) (.call _); refine jcall0 (v := .bool (lmd.isPrefixOf (H.s.drop x.pos) || lno.isPrefixOf (H.s.drop x.pos))) (cM H x st W gd q F G) bo138 rfl rfl rfl (isStart_calls hX (lsOf x st W (fV gd (divr x.org)) q.val) hS.p) ?_; rw [hSt]) | (show Jo (some 28) (.call _); refine jcallq (v := .int .i64 (nwS (H.s.drop (x.pos + 3)))) bo139 rfl rfl rfl (quietC fun w' hw' => nonWhite_calls (hX.tab hw') (hBy hw') hB63) ?_) | (show Jo (some 34) (.call ⟨.builtin .len, _, _⟩); refine jy (ylenl rfl und59) rfl rfl ?_) | (show Jo (some 41) (.call _); refine jcall (ι := Value) (v := fun v => v) (m' := fun _ => cM H x st W gd q F G) (fun v' => ∀ W, Byt W (.slice (some ⟨rb2, ro2, none⟩) C.length rc2) C → SlB W v' (trS C)) bo108 rfl rfl rfl (fun w' hw' => (trimSpace_calls (hX.tab hw') (hBy2 hw') (by omega)).mono fun e w'' ⟨v', h1, h2, h3⟩ => ⟨v', h1, hw'.below h3, h2⟩) (fun v' hv' => ?_)) | (show Jo (some 57) (.call _); refine jcall (ι := RS) (v := fun _ => .nilFunc) (m' := fun q' => cM H (errI x) st W gd q' F G) (fun q' => StOk _ H (errI x) q' G) bo112 rfl rfl rfl (err_st hX hS st _ _ (by omega) _ _) (fun q1 hS1 => ?_))) | (show Jo (some 26) _; refine jy (v := .slice (some ⟨rb, ro, none⟩) (H.s.drop (x.pos + 3)).length rc) (yslL (n := x.pos + 3) rfl rfl und59 sz5 rfl hp3 he1 he2 he3) rfl rfl ?_) | (show Jo (some 40) _; refine jy (v := .slice (some ⟨rb2, ro2, none⟩) C.length rc2) (yslL (n := kk) rfl rfl und59 sz5 rfl hkk hf1 hf2 hf3) rfl rfl ?_)))
        exact ret2 rfl rfl rfl rfl (fun w' hw' => ⟨q1, rfl, hw.up hw', StOk.up hw hS1⟩)
      · rw [decide_eq_true hm1, Bool.true_and]
        cases hH : nm.data.toList.isPrefixOf (trS C)
        · rw [Bool.not_false, if_pos rfl]
          dsimp only
          have hM : True := trivial
          repeat' (first | refine ctrue (congrArg (fun b => some (Value.bool b)) hcc) ?_ | first | (show PJ _ (Code.wp _ _ _) _ _; first | refine cseq ?_ | refine rtext ?_ | refine ctrue rfl ?_ | refine cfalse rfl ?_ | refine cskip ?_ | refine cret ?_ | refine rquiet mixed (by kernel_rfl) ?_) | refine tret ?_ | refine jnil ?_ | (first | refine jmv rfl rfl rfl ?_ | refine jy (ynil rfl) rfl rfl ?_ | (show Jo _ (.fieldAddr _ _ _); refine jy (yfield rfl (by first | exact fb110_0 | exact fb110_3 | exact fb110_10 | exact fb108_2) rfl) rfl rfl ?_) | (show Jo _ (.load _ _); refine jy (yload (i := 0) rfl rfl rfl one3) rfl rfl ?_) | refine jas_ rfl rfl rfl ?_ | (show Jo _ (.binOp _ _ _ _ _); first | (show Jo (some 25) _; refine jy (yadd (c := ((x.pos + 3 : Nat) : Int)) rfl rfl ((i64_in (by (try dsimp only [lsOf, mv, ign, emitL]); omega) (by (try dsimp only [lsOf, mv, ign, emitL]); omega)).trans (by (try dsimp only [lsOf, mv, ign, emitL]); omega))) rfl rfl ?_) | (show Jo (some 35) _; refine jy (ysub (c := (H.s.length : Int) - 1) rfl rfl (i64_in (by omega) (by omega))) rfl rfl ?_) | (show Jo (some 36) _; refine jy (yneq (c := true) rfl rfl (decide_eq_true (by omega))) rfl rfl ?_) | (show Jo (some 39) _; refine jy (yadd (c := ((kk : Nat) : Int)) rfl rfl ((i64_in (by omega) (by omega)).trans (by omega))) rfl rfl ?_) | (show Jo (some 51) _; refine jy (ysadd (c := nm) rfl rfl hnsz hnm) rfl rfl ?_) | refine jy (yeql rfl rfl (by (exact decide_eq_false (by omega)))) rfl rfl ?_) | (show Jo _ (.pick _ _ _); refine jy (ypick0 rfl rfl) rfl rfl ?_) | refine jy (ynot rfl rfl) rfl rfl ?_ | (show Jo _ (.call _); first | (show Jo (some 9) (.call _); refine jcall0 (v := .bool (lmd.isPrefixOf (H.s.drop x.pos) || lno.isPrefixOf (H.s.drop x.pos))) (cM H x st W gd q F G) bo138 rfl rfl rfl (isStart_calls hX (lsOf x st W (fV gd (divr x.org)) q.val) hS.p) ?_; rw [hSt]) | (show Jo (some 28) (.call _); refine jcallq (v := .int .i64 (nwS (H.s.drop (x.pos + 3)))) bo139 rfl rfl rfl (quietC fun w' hw' => nonWhite_calls (hX.tab hw') (hBy hw') hB63) ?_) | (show Jo (some 34) (.call ⟨.builtin .len, _, _⟩); refine jy (ylenl rfl und59) rfl rfl ?_) | (show Jo (some 41) (.call _); refine jcall (ι := Value) (v := fun v => v) (m' := fun _ => cM H x st W gd q F G) (fun v' => ∀ W, Byt W (.slice (some ⟨rb2, ro2, none⟩) C.length rc2) C → SlB W v' (trS C)) bo108 rfl rfl rfl (fun w' hw' => (trimSpace_calls (hX.tab hw') (hBy2 hw') (by omega)).mono fun e w'' ⟨v', h1, h2, h3⟩ => ⟨v', h1, hw'.below h3, h2⟩) (fun v' hv' => ?_)) | (show Jo (some 53) (.call _); refine jcallq (v := .bool (nm.data.toList.isPrefixOf (trS C))) bo132 rfl rfl rfl (quietC fun w' hw' => haspS_calls (hv' w' (hBy2 (hw'.less (List.sublist_cons_self _ _)))) (byt_nm hw'.1 (.head _) hcn) hnm0) ?_; rw [hH]; refine jless (List.sublist_cons_self _ _) ?_) | (show Jo (some 57) (.call _); refine jcall (ι := RS) (v := fun _ => .nilFunc) (m' := fun q' => cM H (errI x) st W gd q' F G) (fun q' => StOk _ H (errI x) q' G) bo112 rfl rfl rfl (err_st hX hS st _ _ (by omega) _ _) (fun q1 hS1 => ?_))) | (show Jo (some 26) _; refine jy (v := .slice (some ⟨rb, ro, none⟩) (H.s.drop (x.pos + 3)).length rc) (yslL (n := x.pos + 3) rfl rfl und59 sz5 rfl hp3 he1 he2 he3) rfl rfl ?_) | (show Jo (some 40) _; refine jy (v := .slice (some ⟨rb2, ro2, none⟩) C.length rc2) (yslL (n := kk) rfl rfl und59 sz5 rfl hkk hf1 hf2 hf3) rfl rfl ?_) | (show Jo (some 52) _; refine jbytesG rfl rfl und9 und59 und5 rfl (fun gz cn rr hgz hcn => ?_))))
          exact ret2 rfl rfl rfl rfl (fun w' hw' => ⟨q1, rfl, hw.up hw', StOk.up hw hS1⟩)
        · rw [Bool.not_true, if_neg (by simp)]
          dsimp only
          cases hM : lmd.isPrefixOf (H.s.drop x.pos)
          all_goals
            repeat' (first | refine ctrue (congrArg (fun b => some (Value.bool b)) hcc) ?_ | first | (show PJ _ (Code.wp _ _ _) _ _; first | refine cseq ?_ | refine rtext ?_ | refine ctrue rfl ?_ | refine cfalse rfl ?_ | refine cskip ?_ | refine cret ?_ | refine rquiet mixed (by kernel_rfl) ?_) | refine jnil ?_ | (first | refine jmv rfl rfl rfl ?_ | refine jy (ynil rfl) rfl rfl ?_ | (show Jo _ (.fieldAddr _ _ _); refine jy (yfield rfl (by first | exact fb110_0 | exact fb110_3 | exact fb110_10 | exact fb108_1 | exact fb108_2) rfl) rfl rfl ?_) | (show Jo _ (.load _ _); refine jy (yload (i := 0) rfl rfl rfl one3) rfl rfl ?_) | refine jas_ rfl rfl rfl ?_ | (show Jo _ (.binOp _ _ _ _ _); first | (show Jo (some 25) _; refine jy (yadd (c := ((x.pos + 3 : Nat) : Int)) rfl rfl ((i64_in (by (try dsimp only [lsOf, mv, ign, emitL]); omega) (by (try dsimp only [lsOf, mv, ign, emitL]); omega)).trans (by (try dsimp only [lsOf, mv, ign, emitL]); omega))) rfl rfl ?_) | (show Jo (some 35) _; refine jy (ysub (c := (H.s.length : Int) - 1) rfl rfl (i64_in (by omega) (by omega))) rfl rfl ?_) | (show Jo (some 36) _; refine jy (yneq (c := true) rfl rfl (decide_eq_true (by omega))) rfl rfl ?_) | (show Jo (some 39) _; refine jy (yadd (c := ((kk : Nat) : Int)) rfl rfl ((i64_in (by omega) (by omega)).trans (by omega))) rfl rfl ?_) | (show Jo (some 51) _; refine jy (ysadd (c := nm) rfl rfl hnsz hnm) rfl rfl ?_) | refine jy (yeql rfl rfl (by (exact decide_eq_false (by omega)))) rfl rfl ?_) | (show Jo _ (.store _ _ _); refine jstore (i := 0) rfl rfl rfl rfl rfl si85 hX.mL ?_) | (show Jo _ (.pick _ _ _); refine jy (ypick0 rfl rfl) rfl rfl ?_) | refine jy (ynot rfl rfl) rfl rfl ?_ | (show Jo _ (.call _); first | (show Jo (some 9) (.call _); refine jcall0 (v := .bool (lmd.isPrefixOf (H.s.drop x.pos) || lno.isPrefixOf (H.s.drop x.pos))) (cM H x st W gd q F G) bo138 rfl rfl rfl (isStart_calls hX (lsOf x st W (fV gd (divr x.org)) q.val) hS.p) ?_; rw [hSt]) | (show Jo (some 28) (.call _); refine jcallq (v := .int .i64 (nwS (H.s.drop (x.pos + 3)))) bo139 rfl rfl rfl (quietC fun w' hw' => nonWhite_calls (hX.tab hw') (hBy hw') hB63) ?_) | (show Jo (some 34) (.call ⟨.builtin .len, _, _⟩); refine jy (ylenl rfl und59) rfl rfl ?_) | (show Jo (some 41) (.call _); refine jcall (ι := Value) (v := fun v => v) (m' := fun _ => cM H x st W gd q F G) (fun v' => ∀ W, Byt W (.slice (some ⟨rb2, ro2, none⟩) C.length rc2) C → SlB W v' (trS C)) bo108 rfl rfl rfl (fun w' hw' => (trimSpace_calls (hX.tab hw') (hBy2 hw') (by omega)).mono fun e w'' ⟨v', h1, h2, h3⟩ => ⟨v', h1, hw'.below h3, h2⟩) (fun v' hv' => ?_)) | (show Jo (some 53) (.call _); refine jcallq (v := .bool (nm.data.toList.isPrefixOf (trS C))) bo132 rfl rfl rfl (quietC fun w' hw' => haspS_calls (hv' w' (hBy2 (hw'.less (List.sublist_cons_self _ _)))) (byt_nm hw'.1 (.head _) hcn) hnm0) ?_; rw [hH]; refine jless (List.sublist_cons_self _ _) ?_) | (show Jo (some 59) (.call _); refine jcall (ι := Nat) (v := fun g => fV g lmd) (m' := fun g => fB g lmd :: cM H x st W gd q F G) (fun _ => True) bo140 rfl rfl rfl (freshM (fresh140 _)) (fun g _ => ?_)) | (show Jo (some 60) (.call _); refine jcall0 (v := .bool (lmd.isPrefixOf (H.s.drop x.pos))) (cM H x st W gd q F G) bo115 rfl rfl rfl (hasP_st hX (lsOf x st W (fV gd (divr x.org)) q.val) hS.p g lmd) ?_; rw [hM])) | (show Jo (some 26) _; refine jy (v := .slice (some ⟨rb, ro, none⟩) (H.s.drop (x.pos + 3)).length rc) (yslL (n := x.pos + 3) rfl rfl und59 sz5 rfl hp3 he1 he2 he3) rfl rfl ?_) | (show Jo (some 40) _; refine jy (v := .slice (some ⟨rb2, ro2, none⟩) C.length rc2) (yslL (n := kk) rfl rfl und59 sz5 rfl hkk hf1 hf2 hf3) rfl rfl ?_) | (show Jo (some 52) _; refine jbytesG rfl rfl und9 und59 und5 rfl (fun gz cn rr hgz hcn => ?_))))
            first | exact fin (f' := [(4, .func (.func 119) #[] #[]), (5, .bool true)]) (m' := cM H { x with md := true } st W gd q F G) (fin1 true) ⟨rfl, rfl, trivial⟩ rfl | exact fin (f' := [(4, .func (.func 119) #[] #[]), (5, .bool true)]) (m' := cM H { x with md := false } st W gd q F G) (fin1 false) ⟨rfl, rfl, trivial⟩ rfl
end Go.Proofs.YtkehggbmpdacpabGreatDoor.Pg
namespace Go.Proofs.YtkehggbmpdacpabGreatDoor.Lex0
open Go.Proofs.YtkehggbmpdacpabGreatDoor.Dec0
theorem b_sp (l : T) : spN l ≤ l.length := by
  induction l with
  | nil => exact Nat.le_refl _
  | cons c r ih => unfold spN; split <;> simp <;> omega
theorem b_tosp (l : T) : toSpN l ≤ l.length := by
  induction l with
  | nil => exact Nat.le_refl _
  | cons c r ih => unfold toSpN; split <;> simp <;> omega
theorem b_crlf (l : T) : crlf l ≤ l.length := by
  unfold crlf
  split <;> simp
theorem b_idx {p : T} : ∀ {l : T} {q : Nat}, idx p l = some q → q + p.length ≤ l.length ∧ p.isPrefixOf (l.drop q) = true := by
  intro l
  induction l with
  | nil =>
    intro q h
    unfold idx at h
    split at h
    · rename_i e
      cases h
      simp [e]
    · cases h
  | cons c r ih =>
    intro q h
    unfold idx at h
    split at h
    · rename_i e
      cases h
      have := (List.isPrefixOf_iff_prefix.1 e).length_le
      exact ⟨by omega, e⟩
    · cases hr : idx p r with
      | none => rw [hr] at h; cases h
      | some k =>
        rw [hr] at h
        cases h
        have := ih hr
        simp only [List.length_cons, List.drop_succ_cons]
        exact ⟨by omega, this.2⟩
theorem b_run (p : Int → Bool) : ∀ (m : Nat) (l : T), l.length ≤ m → runN p l ≤ l.length := by
  intro m
  induction m with
  | zero => intro l hl; rw [runN]; split <;> rename_i h; exact absurd (List.length_eq_zero_iff.1 (by omega)) h.1; omega
  | succ m ih =>
    intro l hl
    rw [runN]
    split
    · rename_i h
      have h1 := wd_pos h.1
      have h2 := wd_le l
      have := ih (l.drop (wd l)) (by rw [List.length_drop]; omega)
      rw [List.length_drop] at this
      omega
    · omega
theorem run_pos {p : Int → Bool} {l : T} (h : l ≠ []) (hp : p (rn l) = true) : 0 < runN p l := by
  rw [runN, dif_pos ⟨h, hp⟩]
  have := wd_pos h
  omega
theorem b_q (alw : Bool) : ∀ (l : T) (n : Nat) (so : Option Nat) (oq esc est : Bool), (∀ k, so = some k → k ≤ n) →
    n ≤ (qLoop alw l n so oq esc est).2.1 ∧ (qLoop alw l n so oq esc est).2.1 ≤ n + l.length ∧ (∀ k, (qLoop alw l n so oq esc est).2.2.1 = some k → k ≤ (qLoop alw l n so oq esc est).2.1) ∧ ((qLoop alw l n so oq esc est).1 = false → oq = false → n < (qLoop alw l n so oq esc est).2.1) := by
  intro l
  induction l with
  | nil => intro n so oq esc est h; unfold qLoop; exact ⟨Nat.le_refl _, by simp, h, by simp⟩
  | cons c r ih =>
    intro n so oq esc est h
    have hs : ∀ k, so = some k → k ≤ n + 1 := fun k hk => by have := h k hk; omega
    have hs2 : ∀ k, some (n + 1) = some k → k ≤ n + 1 := fun k hk => by cases hk; omega
    have key : ∀ so' oq' esc' est', (∀ k, so' = some k → k ≤ n + 1) → n ≤ (qLoop alw r (n + 1) so' oq' esc' est').2.1 ∧ (qLoop alw r (n + 1) so' oq' esc' est').2.1 ≤ n + (c :: r).length ∧ (∀ k, (qLoop alw r (n + 1) so' oq' esc' est').2.2.1 = some k → k ≤ (qLoop alw r (n + 1) so' oq' esc' est').2.1) ∧ ((qLoop alw r (n + 1) so' oq' esc' est').1 = false → oq = false → n < (qLoop alw r (n + 1) so' oq' esc' est').2.1) := fun so' oq' esc' est' h' => by
      obtain ⟨h1, h2, h3, h4⟩ := ih (n + 1) so' oq' esc' est' h'
      exact ⟨by omega, by simp only [List.length_cons]; omega, h3, fun _ _ => by omega⟩
    have e1 : n ≤ n + 1 ∧ n + 1 ≤ n + (c :: r).length ∧ (∀ k, so = some k → k ≤ n + 1) ∧ (true = false → oq = false → n < n + 1) := ⟨by omega, by simp only [List.length_cons]; omega, hs, fun _ _ => by omega⟩
    unfold qLoop
    split
    · split
      · split
        · rename_i ho
          split
          · exact key so oq true true hs
          · exact ⟨Nat.le_refl _, Nat.le_add_right _ _, h, fun _ h0 => by rw [h0] at ho; cases ho⟩
        · exact key so oq esc est hs
      · split
        · exact e1
        · exact key so oq esc est hs
    · split
      · exact e1
      · split
        · split
          · exact key so oq esc false hs
          · split
            · rename_i ho
              exact ⟨Nat.le_refl _, Nat.le_add_right _ _, h, fun _ h0 => by rw [h0] at ho; cases ho⟩
            · exact key (some (n + 1)) true esc est hs2
        · exact key so oq esc est hs
theorem b_r : ∀ (l : T) (n : Nat) (so : Option Nat) (op : Bool), (∀ k, so = some k → k ≤ n) →
    n ≤ (rLoop l n so op).2.1 ∧ (rLoop l n so op).2.1 ≤ n + l.length ∧ (∀ k, (rLoop l n so op).2.2 = some k → k ≤ (rLoop l n so op).2.1) ∧ ((rLoop l n so op).1 = false → op = false → n < (rLoop l n so op).2.1) ∧ ((rLoop l n so op).1 = false → (rLoop l n so op).2.1 < n + l.length) := by
  intro l
  induction l with
  | nil => intro n so op h; unfold rLoop; exact ⟨Nat.le_refl _, by simp, h, by simp, by simp⟩
  | cons c r ih =>
    intro n so op h
    have hs : ∀ k, so = some k → k ≤ n + 1 := fun k hk => by have := h k hk; omega
    have hs2 : ∀ k, some (n + 1) = some k → k ≤ n + 1 := fun k hk => by cases hk; omega
    unfold rLoop
    split
    · split
      · rename_i ho
        exact ⟨Nat.le_refl _, Nat.le_add_right _ _, h, fun _ h0 => absurd (h0.symm.trans ho) (by decide), fun _ => by simp⟩
      · obtain ⟨h1, h2, h3, h4, h5⟩ := ih (n + 1) (some (n + 1)) true hs2
        exact ⟨by omega, by simp only [List.length_cons]; omega, h3, fun _ _ => by omega, fun h0 => by have := h5 h0; simp only [List.length_cons]; omega⟩
    · obtain ⟨h1, h2, h3, h4, h5⟩ := ih (n + 1) so op hs
      exact ⟨by omega, by simp only [List.length_cons]; omega, h3, fun _ _ => by omega, fun h0 => by have := h5 h0; simp only [List.length_cons]; omega⟩
theorem b_id (E : Env) : ∀ (m : Nat) (l : T) (n : Nat) (inl : Bool), l.length ≤ m → n ≤ (idLoop E l n inl).2.1 ∧ (idLoop E l n inl).2.1 ≤ n + l.length := by
  intro m
  induction m with
  | zero =>
    intro l n inl hl
    have : l = [] := List.length_eq_zero_iff.1 (by omega)
    subst this
    rw [idLoop]
    simp
  | succ m ih =>
    intro l n inl hl
    rw [idLoop]
    split
    · rename_i h
      have h1 := wd_pos h
      have h2 := wd_le l
      have hd : (l.drop (wd l)).length ≤ m := by rw [List.length_drop]; omega
      have hk : ∀ b, n ≤ (idLoop E (l.drop (wd l)) (n + wd l) b).2.1 ∧ (idLoop E (l.drop (wd l)) (n + wd l) b).2.1 ≤ n + l.length := fun b => by
        have := ih (l.drop (wd l)) (n + wd l) b hd
        rw [List.length_drop] at this
        omega
      split
      · exact hk _
      · split
        · split
          · exact hk _
          · dsimp only; omega
        · dsimp only; omega
    · dsimp only; omega
theorem id_pos {E : Env} {l : T} (n : Nat) (inl : Bool) (hl : l ≠ []) (h : idR E (rn l) = true) : n < (idLoop E l n inl).2.1 := by
  rw [idLoop, dif_pos hl, if_pos h]
  have := (b_id E _ (l.drop (wd l)) (n + wd l) inl (Nat.le_refl _)).1
  have := wd_pos hl
  omega
theorem b_fr (d : T) : ∀ (l : T) (n m : Nat), fr d l n = some m → n ≤ m ∧ m - n + d.length ≤ l.length ∧ d.isPrefixOf (l.drop (m - n)) = true := by
  intro l
  induction l with
  | nil => intro n m h; rw [fr] at h; cases h
  | cons c r ih =>
    intro n m h
    rw [fr] at h
    split at h
    · rename_i e
      cases h
      have := (List.isPrefixOf_iff_prefix.1 e.2).length_le
      refine ⟨by omega, by simp only [List.length_cons]; omega, ?_⟩
      rw [show n + 1 - n = 1 by omega]
      exact e.2
    · obtain ⟨h1, h2, h3⟩ := ih (n + 1) m h
      refine ⟨by omega, by simp only [List.length_cons]; omega, ?_⟩
      rw [show m - n = (m - (n + 1)) + 1 by omega, List.drop_succ_cons]
      exact h3
theorem b_fr0 (d : T) (l : T) (was : Bool) (m : Nat) (h : fr0 d l was = some m) : m + d.length ≤ l.length := by
  unfold fr0 at h
  split at h
  · rename_i e
    cases h
    have := (List.isPrefixOf_iff_prefix.1 e.2).length_le
    omega
  · have := b_fr d l 0 m h
    omega
theorem b_json : ∀ (k : Nat) (l : T) (n : Nat) (q : Bool) (lv m : Nat), l.length ≤ k → jsonL l n q lv = some m → m ≤ n + l.length := by
  intro k
  induction k with
  | zero =>
    intro l n q lv m hl h
    have : l = [] := List.length_eq_zero_iff.1 (by omega)
    subst this
    rw [jsonL] at h
    cases h
  | succ k ih =>
    intro l n q lv m hl h
    cases l with
    | nil => rw [jsonL] at h; cases h
    | cons c r =>
      by_cases hc : c = 92
      · subst hc
        cases r with
        | nil =>
          rw [jsonL] at h
          · rw [if_neg (by decide), if_neg (by decide), if_neg (by decide), jsonL] at h; cases h
          · rintro d r' _ h; cases h
        | cons d r =>
          rw [jsonL] at h
          have := ih r (n + 2) q lv m (by simp only [List.length_cons] at hl; omega) h
          simp only [List.length_cons]
          omega
      · have hk : ∀ q' lv', jsonL r (n + 1) q' lv' = some m → m ≤ n + (c :: r).length := fun q' lv' h' => by
          have := ih r (n + 1) q' lv' m (by simp only [List.length_cons] at hl; omega) h'
          simp only [List.length_cons]
          omega
        rw [jsonL] at h
        · split at h
          · exact hk _ _ h
          · split at h
            · split at h
              · exact hk _ _ h
              · split at h
                · cases h
                  simp only [List.length_cons]
                  omega
                · exact hk _ _ h
            · split at h
              · exact hk _ _ h
              · exact hk _ _ h
        · rintro d r' h' _; exact hc h'
theorem b_org : ∀ (l : T) (n : Nat), n ≤ orgL l n ∧ orgL l n ≤ n + l.length := by
  intro l
  induction l with
  | nil => intro n; rw [orgL]; exact ⟨Nat.le_refl _, Nat.le_refl _⟩
  | cons c r ih =>
    intro n
    rw [orgL]
    split
    · simp only [List.length_cons]; omega
    · have := ih (n + 1)
      simp only [List.length_cons]
      omega
def rank : St → Nat
  | .done => 0
  | .right => 0
  | .ident => 0
  | .left => 0
  | .comment => 0
  | .main => 1
  | .endsc => 1
  | .inside => 1
  | .pval => 2
  | .json => 2
  | .org => 2
  | .intro => 3
def Here (E : Env) (s : T) : St → Lx → Prop
  | .left, x => (if x.md then lmd else lno).isPrefixOf (s.drop x.pos) = true
  | .right, x => (rd x.md).isPrefixOf (s.drop x.pos) = true
  | .ident, x => E.al (rn (s.drop x.pos)) = true
  | .json, x => ∃ r, s.drop x.pos = 123 :: r
  | .org, x => ∃ r, s.drop x.pos = 35 :: r
  | _, _ => True
structure Good (E : Env) (s : T) (st : St) (x : Lx) : Prop where
  p : x.pos ≤ s.length
  sp : x.start ≤ x.pos
  h : Here E s st x
structure Mv (s : T) (x y : Lx) : Prop where
  le : x.pos ≤ y.pos
  p : y.pos ≤ s.length
  s : y.start ≤ y.pos
  its : ∃ k, y.items = x.items ++ k ∧ k.length ≤ 6
  stp : y.step ≤ x.step + 1
  cl : y.closing ≤ x.closing + 1
def Fwd (E : Env) (s : T) (st : St) (x : Lx) (r : Res) : Prop := Mv s x r.1 ∧ ∀ st', r.2 = some st' → Here E s st' r.1 ∧ 4 * (s.length - r.1.pos) + rank st' < 4 * (s.length - x.pos) + rank st
theorem txts_two (s : T) (a b : Nat) : (txts s a b).length ≤ 2 := by
  unfold txts
  dsimp only
  split
  · simp
  · split <;> simp
theorem pre_len {p l : T} (h : p.isPrefixOf l = true) : p.length ≤ l.length := (List.isPrefixOf_iff_prefix.1 h).length_le
theorem rd3 (md : Bool) : (rd md).length = 3 := by cases md <;> rfl
theorem lf3 (md : Bool) : (if md then lmd else lno : T).length = 3 := by cases md <;> rfl
theorem Mv.ofI {s : T} {x y : Lx} (h1 : x.pos ≤ y.pos) (h2 : y.pos ≤ s.length) (h3 : y.start ≤ y.pos) (k : List Itm) (h4 : y.items = x.items ++ k) (h5 : k.length ≤ 6) (h6 : y.step ≤ x.step + 1) (h7 : y.closing ≤ x.closing + 1) : Mv s x y := ⟨h1, h2, h3, ⟨k, h4, h5⟩, h6, h7⟩
theorem Fwd.of {E : Env} {s : T} {st : St} {x x' : Lx} {r : Res} (h : Fwd E s st x' r) (h1 : x'.pos = x.pos) (h2 : x'.items = x.items) (h3 : x'.step = x.step) (h4 : x'.closing = x.closing) : Fwd E s st x r := by
  obtain ⟨⟨a1, a2, a3, ⟨k, a4, a5⟩, a6, a7⟩, b⟩ := h
  rw [h1] at b a1
  rw [h2] at a4
  rw [h3] at a6
  rw [h4] at a7
  exact ⟨⟨a1, a2, a3, ⟨k, a4, a5⟩, a6, a7⟩, b⟩
section
variable {E : Env} {s : T} {dv : Bool} {x : Lx} (hp : x.pos ≤ s.length) (hs : x.start ≤ x.pos)
include hp hs
theorem fail_fwd (st : St) (n : Nat) (hn : x.pos + n ≤ s.length) : Fwd E s st x (fail (mv n x)) := ⟨.ofI (Nat.le_add_right _ _) hn (Nat.le_trans hs (Nat.le_add_right _ _)) _ rfl (by simp) (by simp [fail, errI, mv]) (by simp [fail, errI, mv]), fun st' h => by cases h⟩
theorem done_fwd : Fwd E s .done x (done s x) := by
  have h2 := txts_two s x.start x.pos
  refine ⟨?_, fun st' h => by cases h⟩
  unfold done
  split
  · exact .ofI (Nat.le_refl _) hp (Nat.le_refl _) _ (show (x.items ++ txts s x.start x.pos) ++ [mk 1 x.pos x.pos] = x.items ++ (txts s x.start x.pos ++ [mk 1 x.pos x.pos]) from List.append_assoc ..) (by rw [List.length_append, List.length_singleton]; omega) (Nat.le_succ _) (Nat.le_succ _)
  · exact .ofI (Nat.le_refl _) hp (Nat.le_refl _) _ rfl (by simp) (Nat.le_succ _) (Nat.le_succ _)
theorem left_fwd (hh : Here E s .left x) : Fwd E s .left x (left s x) := by
  have h3 := pre_len (show (if x.md then lmd else lno : T).isPrefixOf (s.drop x.pos) = true from hh)
  rw [lf3, List.length_drop] at h3
  unfold left
  split
  · exact ⟨.ofI (Nat.le_add_right _ _) (by dsimp only [mv]; omega) (Nat.le_trans hs (Nat.le_add_right _ _)) [] (by simp [mv]) (by simp) (Nat.le_succ _) (Nat.le_succ _), fun st' h => by cases h; exact ⟨trivial, by dsimp only [mv, rank]; omega⟩⟩
  · exact ⟨.ofI (Nat.le_add_right _ _) (by dsimp only [mv, emit]; omega) (Nat.le_refl _) _ rfl (by simp) (Nat.zero_le _) (Nat.le_succ _), fun st' h => by cases h; exact ⟨trivial, by dsimp only [mv, emit, rank]; omega⟩⟩
theorem comment_fwd : Fwd E s .comment x (comment s x) := by
  unfold comment
  split
  · exact fail_fwd hp hs _ 0 hp
  · rename_i q hq
    have hb := (b_idx hq).1
    rw [List.length_append, rd3, List.length_drop] at hb
    simp only [List.length_cons, List.length_nil] at hb
    split
    · exact fail_fwd hp hs _ 0 hp
    · refine ⟨.ofI (by dsimp only [mv, ign, emitT]; omega) (by dsimp only [mv, ign, emitT]; omega) (by dsimp only [mv, ign, emitT]; omega) (txts s x.start x.pos ++ (txts s (x.pos + 2) (x.pos + 2 + (q - 2)) ++ txts s (x.pos + 2 + (q - 2) + 2) (x.pos + 2 + (q - 2) + 2 + 3))) (by simp only [mv, ign, emitT, List.append_assoc]) ?_ (Nat.le_succ _) (Nat.le_succ _), fun st' h => by cases h; exact ⟨trivial, by dsimp only [mv, ign, emitT, rank]; omega⟩⟩
      have h2 := txts_two s
      simp only [List.length_append]
      refine Nat.le_trans (Nat.add_le_add (h2 _ _) (Nat.add_le_add (h2 _ _) (h2 _ _))) (by decide)
theorem right_fwd (hh : Here E s .right x) : Fwd E s .right x (right x) := by
  have h3 := pre_len (show (rd x.md).isPrefixOf (s.drop x.pos) = true from hh)
  rw [rd3, List.length_drop] at h3
  unfold right
  exact ⟨.ofI (Nat.le_add_right _ _) (by dsimp only [mv, emit]; omega) (Nat.le_refl _) _ rfl (by simp) (Nat.le_succ _) (Nat.zero_le _), fun st' h => by cases h; exact ⟨trivial, by dsimp only [mv, emit, rank]; omega⟩⟩
theorem pval_fwd : Fwd E s .pval x (pval s x) := by
  have hb := b_tosp (s.drop x.pos)
  rw [List.length_drop] at hb
  unfold pval
  exact ⟨.ofI (Nat.le_add_right _ _) (by dsimp only [mv, emit]; omega) (Nat.le_refl _) _ rfl (by simp) (Nat.le_succ _) (Nat.le_succ _), fun st' h => by cases h; exact ⟨trivial, by dsimp only [mv, emit, rank]; omega⟩⟩
theorem endsc_fwd : Fwd E s .endsc x (endsc s x) := by
  unfold endsc
  dsimp only
  split
  · rename_i hr
    exact ⟨.ofI (Nat.le_refl _) hp hs [] (by simp) (by simp) (Nat.le_succ _) (Nat.le_succ _), fun st' h => by cases h; exact ⟨hr, by dsimp only [rank]; omega⟩⟩
  · split
    · exact Fwd.of (fail_fwd (x := { x with inl := false }) hp hs _ 0 hp) rfl rfl rfl rfl
    · rename_i c r hd
      have hl := congrArg List.length hd
      rw [List.length_drop, List.length_cons] at hl
      split
      · exact ⟨.ofI (Nat.le_add_right _ _) (by dsimp only [mv, ign]; omega) (Nat.le_refl _) [] (by simp [mv, ign]) (by simp) (Nat.le_succ _) (Nat.le_succ _), fun st' h => by cases h; exact ⟨trivial, by dsimp only [mv, ign, rank]; omega⟩⟩
      · have hw := wd_le (c :: r)
        rw [List.length_cons] at hw
        exact Fwd.of (fail_fwd (x := { x with inl := false }) hp hs _ _ (by dsimp only; omega)) rfl rfl rfl rfl
theorem emitE_facts (t : Nat) : (emitE t s x).pos = x.pos ∧ (emitE t s x).start = x.pos ∧ (∃ k, (emitE t s x).items = x.items ++ k ∧ k.length ≤ 1) ∧ (emitE t s x).step = x.step ∧ (emitE t s x).closing = x.closing := by
  unfold emitE
  split
  · exact ⟨rfl, rfl, ⟨[], by simp [ign], by simp⟩, rfl, rfl⟩
  · exact ⟨rfl, rfl, ⟨_, rfl, by simp⟩, rfl, rfl⟩
theorem qEnd_facts : x.pos ≤ (qEnd s x).pos ∧ (qEnd s x).pos ≤ s.length ∧ (qEnd s x).start ≤ (qEnd s x).pos ∧ (qEnd s x).items = x.items ∧ (qEnd s x).step = x.step ∧ (qEnd s x).closing = x.closing := by
  unfold qEnd
  split
  · rename_i hd
    have hl := congrArg List.length hd
    rw [List.length_drop] at hl
    simp only [List.length_cons] at hl
    exact ⟨Nat.le_add_right _ _, by dsimp only [mv, ign]; omega, Nat.le_refl _, rfl, rfl, rfl⟩
  · rename_i hd
    have hl := congrArg List.length hd
    rw [List.length_drop] at hl
    simp only [List.length_cons] at hl
    exact ⟨Nat.le_add_right _ _, by dsimp only [mv]; omega, Nat.le_trans hs (Nat.le_add_right _ _), rfl, rfl, rfl⟩
  · rename_i hd
    have hl := congrArg List.length hd
    rw [List.length_drop] at hl
    simp only [List.length_cons] at hl
    exact ⟨Nat.le_add_right _ _, by dsimp only [mv, ign]; omega, Nat.le_refl _, rfl, rfl, rfl⟩
  · exact ⟨Nat.le_refl _, hp, hs, rfl, rfl, rfl⟩
theorem quoted_facts (alw : Bool) (ty : Nat) : Mv s x (quoted s alw ty x).1 ∧ ∀ st', (quoted s alw ty x).2 = some st' → st' = .inside ∧ x.pos < (quoted s alw ty x).1.pos := by
  obtain ⟨h1, h2, h3, h4⟩ := b_q alw (s.drop x.pos) 0 none false false false (by simp)
  rw [List.length_drop] at h2
  unfold quoted
  dsimp only
  generalize qLoop alw (s.drop x.pos) 0 none false false false = q at h1 h2 h3 h4 ⊢
  have hst : stAt x q.2.2.1 ≤ x.pos + q.2.1 := by
    cases hq : q.2.2.1 with
    | none => unfold stAt; dsimp only; omega
    | some k => unfold stAt; have := h3 k hq; dsimp only; omega
  split
  · exact ⟨.ofI (by dsimp only [fail, errI]; omega) (by dsimp only [fail, errI]; omega) hst _ rfl (by simp) (Nat.le_succ _) (Nat.le_succ _), fun st' h => by cases h⟩
  · rename_i hf
    have hpos := h4 (by simpa using hf) rfl
    have hpy : x.pos + q.2.1 ≤ s.length := by omega
    have key : ∀ z : Lx, z.pos = x.pos + q.2.1 → z.start ≤ z.pos → (∃ k, z.items = x.items ++ k ∧ k.length ≤ 1) → z.step = x.step → z.closing = x.closing → Mv s x (qEnd s z) ∧ ∀ st', some St.inside = some st' → st' = .inside ∧ x.pos < (qEnd s z).pos := fun z e1 e2 ⟨k, e3, e4⟩ e5 e6 => by
      obtain ⟨f1, f2, f3, f4, f5, f6⟩ := qEnd_facts (s := s) (x := z) (by omega) e2
      exact ⟨.ofI (by omega) f2 f3 k (by rw [f4, e3]) (by omega) (by omega) (by omega), fun st' h => by cases h; exact ⟨rfl, by omega⟩⟩
    split
    · obtain ⟨g1, g2, g3, g4, g5⟩ := emitE_facts (s := s) (x := { x with pos := x.pos + q.2.1, start := stAt x q.2.2.1 }) hpy hst ty
      exact key _ g1 (by rw [g1, g2]; exact Nat.le_refl _) g3 g4 g5
    · exact key _ rfl (Nat.le_refl _) ⟨_, rfl, by simp⟩ rfl rfl
theorem raw_facts (ty : Nat) : Mv s x (raw s ty x).1 ∧ ∀ st', (raw s ty x).2 = some st' → st' = .inside ∧ x.pos < (raw s ty x).1.pos := by
  obtain ⟨h1, h2, h3, h4, h5⟩ := b_r (s.drop x.pos) 0 none false (by simp)
  rw [List.length_drop] at h2 h5
  unfold raw
  dsimp only
  generalize rLoop (s.drop x.pos) 0 none false = q at h1 h2 h3 h4 h5 ⊢
  have hst : stAt x q.2.2 ≤ x.pos + q.2.1 := by
    cases hq : q.2.2 with
    | none => unfold stAt; dsimp only; omega
    | some k => unfold stAt; have := h3 k hq; dsimp only; omega
  split
  · exact ⟨.ofI (by dsimp only [fail, errI]; omega) (by dsimp only [fail, errI]; omega) hst _ rfl (by simp) (Nat.le_succ _) (Nat.le_succ _), fun st' h => by cases h⟩
  · rename_i hf
    have hpos := h5 (by simpa using hf)
    exact ⟨.ofI (by dsimp only [mv, ign, emitS]; omega) (by dsimp only [mv, ign, emitS]; omega) (Nat.le_refl _) _ rfl (by simp) (Nat.le_succ _) (Nat.le_succ _), fun st' h => by cases h; exact ⟨rfl, by dsimp only [mv, ign, emitS]; omega⟩⟩
theorem param_facts (esc : Bool) : Mv s x (param E s esc x).1 ∧ ∀ st', (param E s esc x).2 = some st' → st' = .inside ∧ x.pos ≤ (param E s esc x).1.pos ∧ ((rn (s.drop x.pos) = 34 ∨ rn (s.drop x.pos) = 96 ∨ alh E (rn (s.drop x.pos)) = true ∧ s.drop x.pos ≠ []) → x.pos < (param E s esc x).1.pos) := by
  have h1n : rn (s.drop x.pos) = 34 ∨ rn (s.drop x.pos) = 96 → x.pos + 1 ≤ s.length := fun h => by
    have h0 : s.drop x.pos ≠ [] := fun e => by rw [e] at h; revert h; decide
    have h1 := List.length_pos_iff.2 h0
    rw [List.length_drop] at h1
    omega
  have ff : ∀ (n : Nat), x.pos + n ≤ s.length → Mv s x (fail (mv n x)).1 := fun n hn => (fail_fwd (E := E) hp hs .inside n hn).1
  unfold param
  dsimp only
  split
  · rename_i hq
    have h34 : rn (s.drop x.pos) = 34 ∨ rn (s.drop x.pos) = 96 := by rcases hq with h | h; exact .inl h; exact .inr h.1
    split
    · exact ⟨ff 1 (h1n h34), fun st' h => by cases h⟩
    · split
      · obtain ⟨⟨a1, a2, a3, ⟨k, a4, a4'⟩, a5, a6⟩, b⟩ := quoted_facts (x := { x with par := 1 }) hp hs (!esc) 15
        exact ⟨.ofI a1 a2 a3 k a4 a4' a5 a6, fun st' h => ⟨(b st' h).1, Nat.le_of_lt (b st' h).2, fun _ => (b st' h).2⟩⟩
      · obtain ⟨⟨a1, a2, a3, ⟨k, a4, a4'⟩, a5, a6⟩, b⟩ := raw_facts (x := { x with par := 1 }) hp hs 15
        exact ⟨.ofI a1 a2 a3 k a4 a4' a5 a6, fun st' h => ⟨(b st' h).1, Nat.le_of_lt (b st' h).2, fun _ => (b st' h).2⟩⟩
  · rename_i hq
    split
    · rename_i h96
      exact ⟨ff 1 (h1n (.inr h96)), fun st' h => by cases h⟩
    · rename_i h96
      have hb := b_run (parR E) _ (s.drop x.pos) (Nat.le_refl _)
      rw [List.length_drop] at hb
      have hpos : (rn (s.drop x.pos) = 34 ∨ rn (s.drop x.pos) = 96 ∨ alh E (rn (s.drop x.pos)) = true ∧ s.drop x.pos ≠ []) → 0 < runN (parR E) (s.drop x.pos) := fun h => by
        rcases h with h | h | ⟨h, h'⟩
        · exact absurd (.inl h) hq
        · exact absurd h h96
        · exact run_pos h' (by unfold parR; rw [h]; rfl)
      generalize runN (parR E) (s.drop x.pos) = n at hb hpos ⊢
      have hn : x.pos + n ≤ s.length := by omega
      split
      · exact ⟨.ofI (Nat.le_add_right _ _) hn (Nat.le_refl _) _ rfl (by simp) (Nat.le_succ _) (Nat.le_succ _), fun st' h => by cases h; exact ⟨rfl, Nat.le_add_right _ _, fun h => by have := hpos h; dsimp only [emit, mv]; omega⟩⟩
      · split
        · exact ⟨ff n hn, fun st' h => by cases h⟩
        · split
          · exact ⟨ff n hn, fun st' h => by cases h⟩
          · exact ⟨.ofI (Nat.le_add_right _ _) hn (Nat.le_refl _) _ rfl (by simp) (Nat.le_succ _) (Nat.le_succ _), fun st' h => by cases h; exact ⟨rfl, Nat.le_add_right _ _, fun h => by have := hpos h; dsimp only [emit, mv]; omega⟩⟩
theorem ident_fwd (hal : E.al (-1) = false) (hh : Here E s .ident x) : Fwd E s .ident x (ident E s x) := by
  have hh : E.al (rn (s.drop x.pos)) = true := hh
  have hne : s.drop x.pos ≠ [] := fun h => by rw [h] at hh; rw [show rn [] = -1 from rfl, hal] at hh; cases hh
  have hpos := id_pos (E := E) 0 x.inl hne (by unfold idR alh; rw [hh]; rfl)
  have hb := b_id E _ (s.drop x.pos) 0 x.inl (Nat.le_refl _)
  rw [List.length_drop] at hb
  unfold ident
  dsimp only
  generalize idLoop E (s.drop x.pos) 0 x.inl = q at hpos hb ⊢
  have hq : x.pos + q.2.1 ≤ s.length := by omega
  split
  · exact ⟨.ofI (Nat.le_add_right _ _) hq (Nat.le_trans hs (Nat.le_add_right _ _)) _ rfl (by simp) (Nat.le_succ _) (Nat.le_succ _), fun st' h => by cases h⟩
  · split
    · exact ⟨.ofI (Nat.le_add_right _ _) hq (Nat.le_trans hs (Nat.le_add_right _ _)) _ rfl (by simp) (Nat.le_succ _) (Nat.le_succ _), fun st' h => by cases h⟩
    · refine ⟨.ofI (Nat.le_add_right _ _) hq (Nat.le_refl _) _ rfl (by simp) (Nat.le_refl _) (Nat.zero_le _), fun st' h => ?_⟩
      dsimp only at h
      split at h
      · cases h; exact ⟨trivial, by dsimp only [emit, rank]; omega⟩
      · cases h; exact ⟨trivial, by dsimp only [emit, rank]; omega⟩
end
section
variable {E : Env} {s : T} {dv : Bool} {x : Lx} (hp : x.pos ≤ s.length) (hs : x.start ≤ x.pos)
include hp hs
theorem Mv.after {y z : Lx} {n m : Nat} (h1 : x.pos ≤ y.pos) (hi : y.items = x.items) (h2 : y.step ≤ x.step) (h3 : y.closing ≤ x.closing) (h : Mv s y z) : Mv s x z := by
  obtain ⟨a1, a2, a3, ⟨k, a4, a5⟩, a6, a7⟩ := h
  exact .ofI (by omega) a2 a3 k (by rw [a4, hi]) a5 (by omega) (by omega)
theorem inside_fwd : Fwd E s .inside x (inside E s x) := by
  have ok : ∀ y : Lx, x.pos < y.pos → y.pos ≤ s.length → y.start ≤ y.pos → (∃ k, y.items = x.items ++ k ∧ k.length ≤ 6) → y.step ≤ x.step + 1 → y.closing ≤ x.closing + 1 → ∀ st0, st0 = .inside ∨ st0 = .pval → Fwd E s .inside x (y, some st0) := fun y a1 a2 a3 a4 a5 a6 st0 h0 =>
    ⟨⟨by dsimp only; omega, a2, a3, a4, a5, a6⟩, fun st' h => by cases h; rcases h0 with rfl | rfl; exact ⟨trivial, by dsimp only [rank]; omega⟩; exact ⟨trivial, by dsimp only [rank]; omega⟩⟩
  have okr : ∀ (y : Lx) (r : Res), x.pos < y.pos → y.items = x.items → y.step ≤ x.step → y.closing ≤ x.closing → Mv s y r.1 → (∀ st', r.2 = some st' → st' = .inside) → Fwd E s .inside x r := fun y r a1 a2 a3 a4 a5 a6 =>
    ⟨Mv.after hp hs (n := 0) (m := 0) (by omega) a2 a3 a4 a5, fun st' h => by cases a6 st' h; exact ⟨trivial, by have := a5.le; have := a5.p; dsimp only [rank]; omega⟩⟩
  unfold inside
  dsimp only
  split
  · rename_i hr
    exact ⟨.ofI (Nat.le_refl _) hp hs [] (by simp) (by simp) (Nat.le_succ _) (Nat.le_succ _), fun st' h => by cases h; exact ⟨hr, by dsimp only [rank]; omega⟩⟩
  · split
    · exact fail_fwd hp hs _ 0 hp
    · rename_i hne
      have hl := List.length_pos_iff.2 hne
      rw [List.length_drop] at hl
      have hw := wd_le (s.drop x.pos)
      rw [List.length_drop] at hw
      split
      · exact ok (ign (mv 1 x)) (by dsimp only [mv, ign]; omega) (by dsimp only [mv, ign]; omega) (Nat.le_refl _) ⟨[], by simp [mv, ign], by simp⟩ (Nat.le_succ _) (Nat.le_succ _) _ (.inl rfl)
      · split
        · have hb := b_sp ((s.drop x.pos).drop 1)
          rw [List.length_drop, List.length_drop] at hb
          have hy : (ign (mv (1 + spN ((s.drop x.pos).drop 1)) x)).pos ≤ s.length := by dsimp only [mv, ign]; omega
          split
          · obtain ⟨b1, b2⟩ := quoted_facts (x := ign (mv (1 + spN ((s.drop x.pos).drop 1)) x)) hy (Nat.le_refl _) (rn (s.drop (ign (mv (1 + spN ((s.drop x.pos).drop 1)) x)).pos) != 92) 16
            exact okr (ign (mv (1 + spN ((s.drop x.pos).drop 1)) x)) _ (by dsimp only [mv, ign]; omega) rfl (Nat.le_refl _) (Nat.le_refl _) b1 (fun st' h => (b2 st' h).1)
          · split
            · obtain ⟨b1, b2⟩ := raw_facts (x := ign (mv (1 + spN ((s.drop x.pos).drop 1)) x)) hy (Nat.le_refl _) 16
              exact okr (ign (mv (1 + spN ((s.drop x.pos).drop 1)) x)) _ (by dsimp only [mv, ign]; omega) rfl (Nat.le_refl _) (Nat.le_refl _) b1 (fun st' h => (b2 st' h).1)
            · exact ok (ign (mv (1 + spN ((s.drop x.pos).drop 1)) x)) (by dsimp only [mv, ign]; omega) hy (Nat.le_refl _) ⟨[], by simp [mv, ign], by simp⟩ (Nat.le_succ _) (Nat.le_succ _) _ (.inr rfl)
        · split
          · split
            · exact fail_fwd hp hs _ 1 (by omega)
            · exact ok (emit 12 { mv 1 x with closing := x.closing + 1, inl := false, step := 0 }) (by dsimp only [mv, emit]; omega) (by dsimp only [mv, emit]; omega) (Nat.le_refl _) ⟨_, rfl, by simp⟩ (Nat.zero_le _) (Nat.le_refl _) _ (.inl rfl)
          · split
            · have hy : (ign (mv 1 x)).pos ≤ s.length := by dsimp only [mv, ign]; omega
              split
              · obtain ⟨b1, b2⟩ := param_facts (E := E) (x := ign (mv 1 x)) hy (Nat.le_refl _) true
                exact okr (ign (mv 1 x)) _ (by dsimp only [mv, ign]; omega) rfl (Nat.le_refl _) (Nat.le_refl _) b1 (fun st' h => (b2 st' h).1)
              · exact ok (ign (mv 1 x)) (by dsimp only [mv, ign]; omega) hy (Nat.le_refl _) ⟨[], by simp [mv, ign], by simp⟩ (Nat.le_succ _) (Nat.le_succ _) _ (.inl rfl)
            · split
              · rename_i hpar
                obtain ⟨b1, b2⟩ := param_facts (E := E) hp hs false
                refine ⟨b1, fun st' h => ?_⟩
                obtain ⟨c1, c2, c3⟩ := b2 st' h
                have c4 := c3 (by rcases hpar.2 with h' | h' | h'; exact .inr (.inr ⟨h', hne⟩); exact .inl h'; exact .inr (.inl h'))
                subst c1
                exact ⟨trivial, by have := b1.p; dsimp only [rank]; omega⟩
              · split
                · rename_i hal
                  exact ⟨.ofI (Nat.le_refl _) hp hs [] (by simp) (by simp) (Nat.le_succ _) (Nat.le_succ _), fun st' h => by cases h; exact ⟨hal, by dsimp only [rank]; omega⟩⟩
                · exact fail_fwd hp hs _ _ (by omega)
theorem divr_pos (org : Bool) : 2 ≤ (divr org).length := by cases org <;> decide
theorem b_found {q : Nat} (h : found s dv x = some q) : x.pos + q + 2 ≤ s.length := by
  have key : ∀ p : T, 2 ≤ p.length → ∀ k, idx p (s.drop x.pos) = some k → x.pos + k + 2 ≤ s.length := fun p h2 k hk => by
    have := (b_idx hk).1
    rw [List.length_drop] at this
    omega
  unfold found at h
  cases h1 : idx lsc (s.drop x.pos) with
  | none =>
    rw [h1] at h
    split at h
    · exact key _ (divr_pos hp hs x.org) q h
    · cases h
  | some a =>
    have ha := key lsc (by decide) a h1
    rw [h1] at h
    split at h
    · cases h2 : idx (divr x.org) (s.drop x.pos) with
      | none => rw [h2] at h; cases h; exact ha
      | some b =>
        have hb := key _ (divr_pos hp hs x.org) b h2
        rw [h2] at h
        have h : some (min a b) = some q := h
        cases h
        omega
    · cases h; exact ha
theorem piece_fwd (hl : x.pos + 2 ≤ s.length) : Mv s x (piece E s dv x).1 ∧ (∃ k, (piece E s dv x).1.items = x.items ++ k ∧ k.length ≤ 1) ∧ ∀ st', (piece E s dv x).2 = some st' → Here E s st' (piece E s dv x).1 ∧ 4 * (s.length - (piece E s dv x).1.pos) + rank st' < 4 * (s.length - x.pos) + 1 := by
  unfold piece
  dsimp only
  split
  · rename_i hst
    split
    · exact ⟨.ofI hp (Nat.le_refl _) (by dsimp only [errI]; omega) _ rfl (by simp) (Nat.le_succ _) (Nat.le_succ _), ⟨_, rfl, by simp⟩, fun st' h => by cases h; exact ⟨trivial, by dsimp only [rank, errI]; omega⟩⟩
    · refine ⟨.ofI (Nat.le_refl _) hp hs [] (by simp) (by simp) (Nat.le_succ _) (Nat.le_succ _), ⟨[], by simp, by simp⟩, fun st' h => ?_⟩
      cases h
      refine ⟨?_, by dsimp only [rank]; omega⟩
      show (if lmd.isPrefixOf (s.drop x.pos) = true then lmd else lno).isPrefixOf (s.drop x.pos) = true
      split
      · assumption
      · rename_i hm
        simp only [Bool.or_eq_true] at hst
        exact hst.resolve_left hm
  · split
    · rename_i hd
      simp only [Bool.and_eq_true] at hd
      have h1 := pre_len hd.2
      have h2 := divr_pos hp hs x.org
      have h3 := b_sp ((s.drop x.pos).drop (divr x.org).length)
      rw [List.length_drop] at h1
      rw [List.length_drop, List.length_drop] at h3
      exact ⟨.ofI (by dsimp only [emit]; omega) (by dsimp only [emit]; omega) (Nat.le_refl _) _ rfl (by simp) (Nat.le_succ _) (Nat.le_succ _), ⟨_, rfl, by simp⟩, fun st' h => by cases h; exact ⟨trivial, by dsimp only [rank, emit]; omega⟩⟩
    · exact ⟨.ofI (Nat.le_add_right _ _) (by dsimp only [mv]; omega) (Nat.le_trans hs (Nat.le_add_right _ _)) [] (by simp [mv]) (by simp) (Nat.le_succ _) (Nat.le_succ _), ⟨[], by simp [mv], by simp⟩, fun st' h => by cases h; exact ⟨trivial, by dsimp only [rank, mv]; omega⟩⟩
theorem main_fwd : Fwd E s .main x (main E s dv x) := by
  unfold main
  split
  · exact ⟨.ofI (Nat.le_refl _) hp hs [] (by simp) (by simp) (Nat.le_succ _) (Nat.le_succ _), fun st' h => by cases h; exact ⟨trivial, by dsimp only [rank]; omega⟩⟩
  · split
    · exact ⟨.ofI hp (Nat.le_refl _) (by dsimp only; omega) [] (by simp) (by simp) (Nat.le_succ _) (Nat.le_succ _), fun st' h => by cases h; exact ⟨trivial, by dsimp only [rank]; omega⟩⟩
    · rename_i q hq
      have hb := b_found hp hs hq
      have h2 := txts_two s
      have key : ∀ z : Lx, z.pos = x.pos + q → z.start ≤ z.pos → (∃ k, z.items = x.items ++ k ∧ k.length ≤ 2) → z.step = x.step → z.closing = x.closing → Fwd E s .main x (piece E s dv z) := fun z e1 e2 ⟨k, e3, e4⟩ e5 e6 => by
        obtain ⟨⟨a1, a2, a3, a0, a6, a7⟩, ⟨k2, a4, a5⟩, b⟩ := piece_fwd (E := E) (s := s) (dv := dv) (x := z) (by omega) e2 (by omega)
        exact ⟨.ofI (by omega) a2 a3 (k ++ k2) (by rw [a4, e3, List.append_assoc]) (by rw [List.length_append]; clear a0; omega) (by omega) (by omega), fun st' h => ⟨(b st' h).1, by have := (b st' h).2; dsimp only [rank] at this ⊢; omega⟩⟩
      split
      · exact key _ rfl (Nat.le_refl _) ⟨_, rfl, h2 _ _⟩ rfl rfl
      · exact key _ rfl (Nat.le_trans hs (Nat.le_add_right _ _)) ⟨[], by simp [mv], by simp⟩ rfl rfl
theorem fence_fwd (c : UInt8) (ty : Nat) (st : St) (hst : 1 < rank st) : Mv s x (fence s c ty x).1 ∧ ∀ st', (fence s c ty x).2 = some st' → st' = .main := by
  have ff : ∀ (n : Nat), x.pos + n ≤ s.length → Mv s x (fail (mv n x)).1 := fun n hn => (fail_fwd (E := ⟨fun _ => false, id⟩) hp hs .inside n hn).1
  unfold fence
  split
  · rename_i a b r hd
    have hl := congrArg List.length hd
    rw [List.length_drop] at hl
    simp only [List.length_cons] at hl
    split
    · split
      · dsimp only
        have hc := b_crlf r
        split
        · rename_i hn
          exact ⟨.ofI hp (Nat.le_refl _) (by dsimp only [fail, errI, ign, mv]; omega) _ rfl (by simp) (Nat.le_succ _) (Nat.le_succ _), fun st' h => by cases h⟩
        · rename_i n hn
          have hb := b_fr0 _ _ _ _ hn
          rw [List.length_drop] at hb
          simp only [List.length_cons, List.length_nil] at hb
          dsimp only [ign, mv] at hb ⊢
          have hc2 := b_crlf (s.drop (x.pos + (2 + crlf r) + n + 3))
          rw [List.length_drop] at hc2
          exact ⟨.ofI (by dsimp only [emit]; omega) (by dsimp only [emit]; omega) (Nat.le_refl _) _ rfl (by simp) (Nat.le_succ _) (Nat.le_succ _), fun st' h => by cases h; rfl⟩
      · have hw := wd_le (b :: r)
        simp only [List.length_cons] at hw
        exact ⟨ff _ (by omega), fun st' h => by cases h⟩
    · have hw := wd_le (a :: b :: r)
      simp only [List.length_cons] at hw
      exact ⟨ff _ (by omega), fun st' h => by cases h⟩
  · rename_i a hd
    have hl := congrArg List.length hd
    rw [List.length_drop] at hl
    simp only [List.length_cons, List.length_nil] at hl
    split
    · exact ⟨ff 1 (by omega), fun st' h => by cases h⟩
    · have hw := wd_le [a]
      simp only [List.length_cons, List.length_nil] at hw
      exact ⟨ff _ (by omega), fun st' h => by cases h⟩
  · exact ⟨ff 0 hp, fun st' h => by cases h⟩
theorem json_fwd : Fwd E s .json x (json s x) := by
  unfold json
  split
  · exact ⟨.ofI hp (Nat.le_refl _) (by dsimp only [fail, errI]; omega) _ rfl (by simp) (Nat.le_succ _) (Nat.le_succ _), fun st' h => by cases h⟩
  · rename_i n hn
    have hb := b_json _ _ _ _ _ _ (Nat.le_refl _) hn
    have hc := b_crlf (s.drop (x.pos + n))
    rw [List.length_drop] at hb hc
    exact ⟨.ofI (Nat.le_add_right _ _) (by dsimp only [emit, mv]; omega) (Nat.le_refl _) _ rfl (by simp) (Nat.le_succ _) (Nat.le_succ _), fun st' h => by cases h; exact ⟨trivial, by dsimp only [emit, mv, rank]; omega⟩⟩
theorem org_fwd : Fwd E s .org x (org s x) := by
  unfold org
  split
  · have hb := b_org (s.drop x.pos) 0
    rw [List.length_drop] at hb
    exact ⟨.ofI (Nat.le_add_right _ _) (by dsimp only [emit, mv]; omega) (Nat.le_refl _) _ rfl (by simp) (Nat.le_succ _) (Nat.le_succ _), fun st' h => by cases h; exact ⟨trivial, by dsimp only [emit, mv, rank]; omega⟩⟩
  · exact ⟨.ofI (Nat.le_refl _) hp hs [] (by simp) (by simp) (Nat.le_succ _) (Nat.le_succ _), fun st' h => by cases h; exact ⟨trivial, by dsimp only [rank]; omega⟩⟩
theorem intro_fwd : Fwd E s .intro x (intro s x) := by
  have hb := b_sp (s.drop x.pos)
  rw [List.length_drop] at hb
  have hpy : x.pos + spN (s.drop x.pos) ≤ s.length := by omega
  have hsy : x.start ≤ x.pos + spN (s.drop x.pos) := by omega
  unfold intro
  dsimp only [mv]
  split
  · exact ⟨.ofI (Nat.le_add_right _ _) hpy hsy [] (by simp) (by simp) (Nat.le_succ _) (Nat.le_succ _), fun st' h => by cases h; exact ⟨trivial, by dsimp only [rank]; omega⟩⟩
  · rename_i c r hd
    have hl := congrArg List.length hd
    rw [List.length_drop] at hl
    simp only [List.length_cons] at hl
    have fe : ∀ (c : UInt8) (ty : Nat), Fwd E s .intro x (fence s c ty { x with pos := x.pos + spN (s.drop x.pos) + 1 }) := fun c ty => by
      obtain ⟨a, b⟩ := fence_fwd (s := s) (x := { x with pos := x.pos + spN (s.drop x.pos) + 1 }) (by dsimp only; omega) (by dsimp only; omega) c ty .intro (by decide)
      exact ⟨Mv.after (y := { x with pos := x.pos + spN (s.drop x.pos) + 1 }) hp hs (n := 0) (m := 0) (by dsimp only; omega) rfl (Nat.le_refl _) (Nat.le_refl _) a, fun st' h => by cases b st' h; exact ⟨trivial, by have := a.le; have := a.p; dsimp only [rank] at *; omega⟩⟩
    split
    · exact fe _ _
    · split
      · exact fe _ _
      · split
        · rename_i hc
          exact ⟨.ofI (Nat.le_add_right _ _) hpy hsy [] (by simp) (by simp) (Nat.le_succ _) (Nat.le_succ _), fun st' h => by cases h; exact ⟨⟨r, by rw [← hc]; exact hd⟩, by dsimp only [rank]; omega⟩⟩
        · split
          · rename_i hc
            exact ⟨.ofI (Nat.le_add_right _ _) hpy hsy [] (by simp) (by simp) (Nat.le_succ _) (Nat.le_succ _), fun st' h => by cases h; exact ⟨⟨r, by rw [← hc]; exact hd⟩, by dsimp only [rank]; omega⟩⟩
          · have hw := wd_le (c :: r)
            simp only [List.length_cons] at hw
            exact ⟨.ofI (by dsimp only; omega) (by dsimp only; omega) (by dsimp only; omega) [] (by simp) (by simp) (Nat.le_succ _) (Nat.le_succ _), fun st' h => by cases h; exact ⟨trivial, by dsimp only [rank]; omega⟩⟩
end
theorem step_fwd {E : Env} {s : T} {dv : Bool} (hal : E.al (-1) = false) {st : St} {x : Lx} (h : Good E s st x) : Fwd E s st x (step E s dv st x) := by
  obtain ⟨hp, hs, hh⟩ := h
  cases st with
  | main => exact main_fwd hp hs
  | done => exact done_fwd hp hs
  | left => exact left_fwd hp hs hh
  | comment => exact comment_fwd hp hs
  | right => exact right_fwd hp hs hh
  | inside => exact inside_fwd hp hs
  | pval => exact pval_fwd hp hs
  | ident => exact ident_fwd hp hs hal hh
  | endsc => exact endsc_fwd hp hs
  | intro => exact intro_fwd hp hs
  | json => exact json_fwd hp hs
  | org => exact org_fwd hp hs
theorem step_good {E : Env} {s : T} {dv : Bool} (hal : E.al (-1) = false) {st st' : St} {x y : Lx} (h : Good E s st x) (hy : step E s dv st x = (y, some st')) : Good E s st' y ∧ Mv s x y ∧ 4 * (s.length - y.pos) + rank st' < 4 * (s.length - x.pos) + rank st := by
  have := step_fwd (dv := dv) hal h
  rw [hy] at this
  obtain ⟨h1, h2⟩ := this
  obtain ⟨h3, h4⟩ := h2 st' rfl
  exact ⟨⟨h1.p, h1.s, h3⟩, h1, h4⟩
inductive RunsN (E : Env) (s : T) (dv : Bool) : Nat → St → Lx → List Itm → Prop
  | stop {n st x y} : step E s dv st x = (y, none) → RunsN E s dv n st x y.items
  | go {n st x st' y l} : step E s dv st x = (y, some st') → RunsN E s dv n st' y l → RunsN E s dv (n + 1) st x l
theorem RunsN.runs {E : Env} {s : T} {dv : Bool} {n : Nat} {st : St} {x : Lx} {l : List Itm} (h : RunsN E s dv n st x l) : Runs E s dv st x l := by
  induction h with
  | stop h => exact .stop h
  | go h _ ih => exact .go h ih
theorem ends {E : Env} {s : T} {dv : Bool} (hal : E.al (-1) = false) : ∀ (n : Nat) (st : St) (x : Lx), Good E s st x → 4 * (s.length - x.pos) + rank st ≤ n → ∃ l, RunsN E s dv n st x l := by
  intro n
  induction n with
  | zero =>
    intro st x h hn
    cases hr : step E s dv st x with
    | mk y o =>
      cases o with
      | none => exact ⟨_, .stop hr⟩
      | some st' => have := (step_good hal h hr).2.2; omega
  | succ n ih =>
    intro st x h hn
    cases hr : step E s dv st x with
    | mk y o =>
      cases o with
      | none => exact ⟨_, .stop hr⟩
      | some st' =>
        obtain ⟨h1, _, h3⟩ := step_good hal h hr
        obtain ⟨l, hl⟩ := ih st' y h1 (by omega)
        exact ⟨l, .go hr hl⟩
theorem good0 (E : Env) (s : T) (front : Bool) : Good E s (if front then .intro else .main) lx0 := ⟨Nat.zero_le _, Nat.le_refl _, by cases front <;> exact trivial⟩
theorem parsesN {E : Env} (hal : E.al (-1) = false) (s : T) (front dv : Bool) : ∃ l, RunsN E s dv (4 * s.length + 3) (if front then .intro else .main) lx0 l := ends hal _ _ _ (good0 E s front) (by
  have : rank (if front then .intro else .main) ≤ 3 := by cases front <;> decide
  dsimp only [lx0]
  omega)
noncomputable def parse (E : Env) (s : T) (front dv : Bool) : List Itm := open Classical in if h : ∃ l, Parses E s front dv l then h.choose else []
theorem parse_of {E : Env} {s : T} {front dv : Bool} {l : List Itm} (h : Parses E s front dv l) : parse E s front dv = l := by
  unfold parse
  have h' : ∃ l, Parses E s front dv l := ⟨l, h⟩
  rw [dif_pos h']
  exact Runs.det h'.choose_spec h
theorem parses {E : Env} (hal : E.al (-1) = false) (s : T) (front dv : Bool) : Parses E s front dv (parse E s front dv) := by
  obtain ⟨l, hl⟩ := parsesN hal s front dv
  have := hl.runs
  rw [parse_of this]
  exact this
theorem parsesN' {E : Env} (hal : E.al (-1) = false) (s : T) (front dv : Bool) : RunsN E s dv (4 * s.length + 3) (if front then .intro else .main) lx0 (parse E s front dv) := by
  obtain ⟨l, hl⟩ := parsesN hal s front dv
  rw [parse_of hl.runs]
  exact hl
end Go.Proofs.YtkehggbmpdacpabGreatDoor.Lex0
