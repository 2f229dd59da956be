/- FnTags: which tags a scanner finds in a text, from a place on, step by step: the law returns true for every text, place and steps; no condition. -/
import Derived.Test.YthjddnmfpdcjnaaDoorSpecZ
import Derived.Test.YthjddnmfpdcjnaaDoorRow0
import Derived.Deep.Slices
import Derived.Deep.Fields
import Derived.ChangeSame
set_option linter.unusedVariables false
namespace Go.Proofs.YthjddnmfpdcjnaaDoor.RowS
open Go.RowKit Go.ChangeShapes Go.WideShapes Go.Deep Go.Proofs.YthjddnmfpdcjnaaDoorW.PrintWords Go.Proofs.YthjddnmfpdcjnaaDoor.PSp
section
variable {H : Type} {enc : TypeId × Value → H} {P : Program} {w : World} {base : Nat} {spare : Nat → Bool} {held : Bool}
theorem open_slice_fields {t e : TypeId} {fs : Array Field} {fuel : Nat} {cs : List Value} {x : DataW H × List MemPlace} (ht : P.underlying t = some (.slice e)) (he : P.underlying e = some (.struct fs))
    (hone : oneCellFields P fs = true) (hC : P.cellsOf e = fs.size) (h : DataW.trod enc P w base spare held fuel t cs = some x) :
    cs = [.slice none 0 0] ∨
    ∃ (a : Addr) (len cap m : Nat), cs = [.slice (some a) len cap] ∧ len ≤ cap ∧ cap ≤ maxLen ∧ m = (if spare a.block then cap else len) ∧
      ∀ i, i < m → ∃ (ys : List (DataW H × List MemPlace)) (n : Nat), ∀ (j : Nat) (f : Field), fs[j]? = some f → ∃ (v : Value) (y : DataW H × List MemPlace), w.cell? (a.add (i * fs.size + j)) = some v ∧ DataW.trod enc P w base spare held n f.type [v] = some y := by
  rcases open_slice ht h with h0 | ⟨a, len, cap, m, n, D, Pl, hcs, hb, hl, hm, hmm, hx, hi⟩
  · exact .inl h0.1
  · refine .inr ⟨a, len, cap, m, hcs, hl, hm, hmm, fun i him => ?_⟩
    obtain ⟨cs', hc, ht'⟩ := hi i him
    rw [hC] at hc
    obtain ⟨ys, n', hn', hy, hlen, hyl, hf⟩ := DataW.trod_struct he ht'
    obtain ⟨_, hcl, hat⟩ := World.cells?_some hc
    refine ⟨ys, n', fun j f hj => ?_⟩
    obtain ⟨ho, hk⟩ := hone_of hone j f hj
    have hjl : j < fs.size := (Array.getElem?_eq_some_iff.1 hj).1
    have hcell := hat j hjl
    have hv : cs'[j]? = some (cs'[j]'(by omega)) := List.getElem?_eq_getElem (by omega)
    have h1 := hf j f hj
    rw [ho, hk] at h1
    have hone' : (cs'.drop j).take 1 = [cs'[j]'(by omega)] := by
      rw [List.drop_eq_getElem_cons (by omega)]
      rfl
    rw [hone'] at h1
    have hys : ys[j]? = some (ys[j]'(by omega)) := List.getElem?_eq_getElem (by omega)
    refine ⟨_, _, ?_, h1.trans hys⟩
    rw [← Go.Deep.add_add, hcell, hv]
end
variable {H : Type} {enc : TypeId × Value → H} {P : Program} {W : World}
theorem open_steps {t e : TypeId} {a : Option Addr} {len cap : Nat} {d : DataW H} {ps : List MemPlace} {f0 f1 f2 : Field}
    (hu : P.underlying t = some (.slice e)) (he : P.underlying e = some (.struct #[f0, f1, f2])) (hone : oneCellFields P #[f0, f1, f2] = true) (hC : P.cellsOf e = 3) (h0 : P.underlying f0.type = some (.int .i64)) (h1 : P.underlying f1.type = some (.int .i64)) (h2 : P.underlying f2.type = some .string)
    (h : DataW.Trod enc P W 0 (fun _ => true) true t (.slice a len cap) d ps) :
    ∃ l : List S27, l.length = len ∧ len ≤ cap ∧ Kd.C k27 W a len l := by
  obtain ⟨fuel, hf⟩ := h
  rcases open_slice_fields hu he hone hC hf with hcs | ⟨x, l, c, m, hcs, hl, hm, hmm, hi⟩
  · simp [Value.cells] at hcs
    obtain ⟨rfl, rfl, rfl⟩ := hcs
    exact ⟨[], rfl, Nat.le_refl _, ⟨rfl, by omega, fun h => by omega⟩⟩
  · simp [Value.cells] at hcs
    obtain ⟨rfl, rfl, rfl⟩ := hcs
    simp only [if_true] at hmm
    subst hmm
    unfold maxLen at hm
    have hx : ∀ i, ∃ y : S27, i < len → W.cell? (x.add (i * 3 + 0)) = some (.int .i64 y.f0) ∧ W.cell? (x.add (i * 3 + 1)) = some (.int .i64 y.f1) ∧ W.cell? (x.add (i * 3 + 2)) = some (.string y.f2) := by
      intro i
      by_cases hlt : i < len
      · obtain ⟨ys, n, hj⟩ := hi i (by omega)
        obtain ⟨v0, y0, c0, t0⟩ := hj 0 f0 rfl
        obtain ⟨v1, y1, c1, t1⟩ := hj 1 f1 rfl
        obtain ⟨v2, y2, c2, t2⟩ := hj 2 f2 rfl
        obtain ⟨z0, e0, _⟩ := DataW.trod_int h0 t0
        obtain ⟨z1, e1, _⟩ := DataW.trod_int h1 t1
        obtain ⟨z2, e2, _⟩ := DataW.trod_string h2 t2
        simp at e0 e1 e2
        subst e0 e1 e2
        exact ⟨⟨z0, z1, z2⟩, fun _ => ⟨c0, c1, c2⟩⟩
      · exact ⟨z27, fun h => absurd h hlt⟩
    obtain ⟨g, hg⟩ := Classical.axiomOfChoice hx
    refine ⟨(List.range len).map g, by simp, hl, ⟨by simp, by omega, fun _ => ⟨x, rfl, fun j p hp => ?_⟩⟩⟩
    have hjl : j < len := by have := (List.getElem?_eq_some_iff.1 hp).1; simpa using this
    have hpe : p = g j := by
      rw [List.getElem?_map, List.getElem?_range hjl] at hp
      exact (Option.some.inj hp).symm
    subst hpe
    obtain ⟨q0, q1, q2⟩ := hg j hjl
    refine ⟨_, rfl, k27_mk W (g j), fun i u hu => ?_⟩
    have hi3 : i < 3 := by have := (List.getElem?_eq_some_iff.1 hu).1; simpa using this
    match i, hi3 with
    | 0, _ => cases hu; exact q0
    | 1, _ => cases hu; exact q1
    | 2, _ => cases hu; exact q2
end Go.Proofs.YthjddnmfpdcjnaaDoor.RowS
namespace Go.Rx
open Go.RowKit
/-- A call of whose end something is known of the world; behind it that world is the first one. -/
theorem jcallR {X : Cx} {P : Program} {ops : Array Oper} {Q : Exit → Act → World → Prop} {K : Act → World → Prop} {rest : List Oper} {f : Fr} {m : Mem} {k : Nat} {as_ : List Operand} {tys : Array TypeId} {d : Nat} {ty : TypeId} {pos : String} {af : Array Edge} {gd : Option (Nat × Bool)} {vs : List Value} {m' : Mem} (S' : Nat → Prop) (R : Value → World → Prop)
    (hb : bodyB P k = true) (hw : wantedF ops f ⟨some d, .call ⟨.value (.func k), as_.toArray, tys⟩, ty, pos, af, gd⟩ = some true) (hd : Nat.blt d X.n = true) (hv : callF f as_ = some vs)
    (hc : ∀ w, Cl X m w → Calls P k vs.toArray w fun e w' => ∃ v, e = .returned v ∧ Cl X m' w' ∧ R v w')
    (h : ∀ v w1, R v w1 → Has m' w1 → Evo X.S X.w0 w1 → J false ⟨X.n, X.D, S', w1⟩ P ops Q K rest ((d, v) :: f) m') : J false X P ops Q K (⟨some d, .call ⟨.value (.func k), as_.toArray, tys⟩, ty, pos, af, gd⟩ :: rest) f m := by
  refine ⟨fun a w s => ?_⟩
  have hw' := wanted_of hw s.agr
  unfold wpList
  rw [if_pos hw']
  refine .inl ?_
  unfold Oper.wp
  rw [run_call hb s.agr hv]
  refine (hc w ⟨s.has, s.evo⟩).mono ?_
  rintro e w' ⟨v, rfl, ⟨hh, he⟩, hR⟩
  exact (h v w' hR hh he).out _ _ ⟨s.agr.put (d := some d) (dst_of (o := ⟨some d, .call ⟨.value (.func k), as_.toArray, tys⟩, ty, pos, af, gd⟩) hd) _, hh, Evo.refl _ _⟩
end Go.Rx
namespace Go.Proofs.YthjddnmfpdcjnaaDoor.PFnTags
open Go.Rx hiding bt
open Go.RowKit Go.Proofs.YthjddnmfpdcjnaaDoorW.PrintWords Go.Proofs.YthjddnmfpdcjnaaDoor.Lib0 Go.Proofs.YthjddnmfpdcjnaaDoor.Tag0 Go.Proofs.YthjddnmfpdcjnaaDoor.NextW Go.Proofs.YthjddnmfpdcjnaaDoor.Has0L6 Go.Proofs.YthjddnmfpdcjnaaDoor.LawA Go.Proofs.YthjddnmfpdcjnaaDoor.LawB Go.Proofs.YthjddnmfpdcjnaaDoor.TxtA Go.Proofs.YthjddnmfpdcjnaaDoor.LawC Go.Proofs.YthjddnmfpdcjnaaDoor.TagV Go.Proofs.YthjddnmfpdcjnaaDoor.LawD Go.Proofs.YthjddnmfpdcjnaaDoor.PSp Go.Proofs.YthjddnmfpdcjnaaDoor.SpecI
theorem bo20 : bodyB Tryd.prog 20 = true := by kernel_rfl
theorem bo21 : bodyB Tryd.prog 21 = true := by kernel_rfl
theorem bo22 : bodyB Tryd.prog 22 = true := by kernel_rfl
theorem fits1_ev (l : List S27) : ∃ b, Ev (fun k => laws_zzFits1.f k l) b ∧ (b = true → ∀ x ∈ l, x.f2.size ≤ 2147483647) := by
  by_cases hc : (l.length : Int) > 2147483647
  · exact ⟨false, Ev.congr (f := fun _ => some false) (fun k => by unfold laws_zzFits1.f; rw [if_pos hc]) (Ev.now _), fun h => by cases h⟩
  have key : ∀ d j, l.length - j = d → j ≤ l.length → ∃ b, Ev (fun k => laws_zzFits1.l0 k l (l.length : Int) (j : Nat)) b ∧ (b = true → ∀ i x, j ≤ i → l[i]? = some x → x.f2.size ≤ 2147483647) := by
    intro d
    induction d with
    | zero =>
      intro j hd hj
      refine ⟨true, Ev.step (f := fun _ => some true) (fun k => ?_) (Ev.now _), fun _ i x h1 h2 => by have := (List.getElem?_eq_some_iff.1 h2).1; omega⟩
      simp only [laws_zzFits1.l0]; rw [if_neg (by omega)]
    | succ d ih =>
      intro j hd hj
      obtain ⟨x, hx⟩ : ∃ x, l[j]? = some x := ⟨_, List.getElem?_eq_getElem (by omega)⟩
      by_cases hc' : (x.f2.size : Int) > 2147483647
      · refine ⟨false, Ev.step (f := fun _ => some false) (fun k => ?_) (Ev.now _), fun h => by cases h⟩
        simp only [laws_zzFits1.l0]; rw [if_pos (by omega), if_pos (by omega), if_pos (by omega), rd_at hx]
        unfold laws_zzFits2.f; rw [if_pos hc']; rfl
      · obtain ⟨b, h1, h2⟩ := ih (j + 1) (by omega) (by omega)
        refine ⟨b, Ev.step (fun k => ?_) h1, fun hb i y g1 g2 => ?_⟩
        · simp only [laws_zzFits1.l0]; rw [if_pos (by omega), if_pos (by omega), if_pos (by omega), rd_at hx]
          unfold laws_zzFits2.f; rw [if_neg hc', wrap_id _ (by omega)]; rfl
        · rcases Nat.eq_or_lt_of_le g1 with e | e
          · subst e; rw [hx] at g2; cases g2; omega
          · exact h2 hb i y e g2
  obtain ⟨b, h1, h2⟩ := key _ 0 rfl (Nat.zero_le _)
  · refine ⟨b, Ev.congr (fun k => by unfold laws_zzFits1.f; rw [if_neg hc]; rfl) h1, fun hb x hx => ?_⟩
    obtain ⟨i, hi⟩ := List.getElem?_of_mem hx
    exact h2 hb i x (Nat.zero_le _) hi
/-- impl.Tags over steps that came in. -/
theorem tagsIn (s : ByteArray) (p : Nat) (l : List S27) (A : Option Addr) (c : Nat) (r : List NextW.Told) (X : Cx) (hXS : ∀ k, ¬ X.S k) (hk : Kd.C k27 X.w0 A l.length l) (h3 : s.size ≤ 4294967280) (hl : l.length ≤ 2147483647) (hr : tags strings_ToLower.f strings_EqualFold.f s p (l.map stepOf) = some r) :
    ∀ w, Cl X [] w → Calls Tryd.prog 18 #[.string s, .int .i64 p, .slice A l.length c] w fun e w' => ∃ row : Row, e = .returned (row.val l.length) ∧ Cl X (row.mem (r.flatMap NextW.Told.cells) 32) w' ∧ row.ok X.w0.heap.size 6 l.length (r.flatMap NextW.Told.cells) := by
  intro w hw
  have hb0 : Below X.w0.heap.size X.w0 w := hw.2.below (fun k _ => hXS k) (Nat.le_refl _)
  have hkw := Kd.C_below hk hb0
  have hrl : r.length = l.length := by have := tags_at hr; simpa using this
  have hcells : ∀ (j : Nat) x, (l.map stepOf)[j]? = some x → ∃ ad, A = some ad ∧ ∀ (k : Nat) v, x.cells[k]? = some v → w.cell? ((ad.add (j * 3)).add k) = some v := by
    intro j x hx
    rw [List.getElem?_map] at hx
    cases hy : l[j]? with
    | none => rw [hy] at hx; cases hx
    | some y =>
      rw [hy] at hx
      cases hx
      obtain ⟨g1, g2, g3⟩ := hkw
      obtain ⟨ad, e, hc⟩ := g3 (by have := (List.getElem?_eq_some_iff.1 hy).1; omega)
      obtain ⟨cs, _, hK, hcell⟩ := hc j y hy
      have hcs := k27_open hK
      subst hcs
      refine ⟨ad, e, fun k v hv => ?_⟩
      have := hcell k v hv
      rw [add_add]
      exact this
  have := tags_calls strings_ToLower.f strings_EqualFold.f s p (l.map stepOf) A c w r hcells (hlow _ _) hfold h3 (by simpa using hl) hr
  rw [List.length_map] at this
  refine this.mono ?_
  rintro e w' ⟨v, rfl, ho, hb⟩
  obtain ⟨row, rfl, hok, hmem⟩ := Row.of_owns ho
  rw [hrl] at hok ⊢
  refine ⟨row, rfl, ⟨⟨by cases row <;> simp [Row.mem], hmem⟩, (Rx.Cl.below hw hb).2⟩, ?_⟩
  cases row with
  | nil => exact hok
  | «at» g' cap rr => exact ⟨Nat.le_trans hw.2.size hok.1, hok.2⟩
theorem told_of_R {w : World} {base : Nat} {ok : Nat → Prop} {v : Value} {ts : List NextW.Told} (h : Kd.R k32 32 w base ok v (ts.map conv)) : ∃ A c, v = .slice A ts.length c ∧ ToldAt w A ts := by
  obtain ⟨A, c, e, _, hC⟩ := Kd.R_reads h
  rw [List.length_map] at e hC
  refine ⟨A, c, e, fun j x hx => ?_⟩
  obtain ⟨g1, g2, g3⟩ := hC
  obtain ⟨ad, ea, hc⟩ := g3 (by have := (List.getElem?_eq_some_iff.1 hx).1; omega)
  obtain ⟨cs, _, hK, hcell⟩ := hc j (conv x) (by rw [List.getElem?_map, hx]; rfl)
  have hcs := k32_open hK
  subst hcs
  refine ⟨ad, ea, fun k v hv => ?_⟩
  have := hcell k v hv
  rw [add_add]
  exact this
set_option maxHeartbeats 1000000 in
set_option maxRecDepth 100000 in
theorem laws_FnTags.calls (s : ByteArray) (pos : Int) (A0 : Option Addr) (c0 : Nat) (l : List S27) (ret_ : Bool) (w : World) (hr0 : Kd.C k27 w A0 l.length l) (hc0 : l.length ≤ c0) (h : ret_ = true ∧ s.size ≤ 140737488351232 ∧ (-9223372036854775808 ≤ pos ∧ pos ≤ 9223372036854775807)) :
    Calls Tryd.prog 5 #[.string s, .int .i64 pos, .slice A0 l.length c0] w fun e w' => e = .returned (.bool ret_) ∧ Below w.heap.size w w' := by
  obtain ⟨rfl, hs0, -⟩ := h
  have post : ∀ (f : Fr) (m : Mem), Rx.look f 6 = some (.bool true) → PJ ⟨61, [], fun _ => False, w⟩ (bodyPost Tryd.prog Tryd.f5 (fun e w' => e = .returned (.bool true) ∧ Below w.heap.size w w') .ret) f m := fun f m hf =>
    ret1 rfl rfl hf (fun w' hw' => ⟨rfl, hw'.2.below (fun k _ h => h) (Nat.le_refl _)⟩)
  obtain ⟨b1, he1, hb1⟩ := fits1_ev l
  obtain ⟨k1, hk1⟩ := he1.rounds
  refine enter (fun _ => False) 61 [] Tryd.func5 rfl rfl rfl (vs := [.string s, .int .i64 pos, .slice A0 l.length c0]) (Has.nil _) ?_
  conv => arg 2; arg 2; whnf
  repeat' (first | (show PJ _ (Code.wp _ _ _) _ _; first | refine cseq ?_ | refine rtext ?_ | refine ctrue rfl ?_ | refine cfalse rfl ?_ | refine cskip ?_ | refine cblk ?_ | refine cret ?_ | refine cexit ?_ | refine csplit' rfl (fun hq => ?_) (fun hq => ?_)  | refine rquiet mixed (by kernel_rfl) ?_) | (show PJ _ (Exit.then _ _ _) _ _; first | refine tnorm ?_ | refine tret ?_ | refine texit ?_) | (show PJ _ (Exit.inBlock _ _ _) _ _; first | refine bnorm ?_ | refine bret ?_ | refine bexit ?_ | refine bother rfl ?_) | (show PJ _ (wpList _ _ _ _) _ _; refine jlist ?_) | (show J _ _ _ _ _ _ [] _ _; refine jnil ?_) | (show J _ _ _ _ _ _ (_ :: _) _ _; first | refine js rfl rfl ?_ | (show J _ _ _ _ _ _ (⟨_, .move _, _, _, _, _⟩ :: _) _ _; refine jy (ymove rfl) rfl rfl ?_) | (show J _ _ _ _ _ _ (⟨_, .nilCheck _, _, _, _, _⟩ :: _) _ _; refine jy (ynil rfl) rfl rfl ?_) | (show J _ _ _ _ _ _ (⟨_, .fieldAddr _ _ _, _, _, _, _⟩ :: _) _ _; refine jy (yfield rfl (by first | exact fb27_0 | exact fb27_1 | exact fb27_2 | exact fb32_0 | exact fb32_1 | exact fb32_2 | exact fb53_0 | exact fb53_1 | exact fb53_2 | exact fb53_3 | exact fb30_0 | exact fb30_1 | exact fb30_2 | exact fb30_3) rfl) rfl rfl ?_) | (show J _ _ _ _ _ _ (⟨_, .load _ _, _, _, _, _⟩ :: _) _ _; first | refine jy (yload (i := 0) rfl rfl rfl (by first | exact one3 | exact one9 | exact one4 | exact one51)) rfl rfl ?_ | refine jy (yload (i := 1) rfl rfl rfl (by first | exact one3 | exact one9 | exact one4 | exact one51)) rfl rfl ?_ | refine jy (yloads (i := 0) rfl rfl (by first | exact ag53 | exact ag27 | exact ag32)) rfl rfl ?_ | refine jy (yload (i := 2) rfl rfl rfl (by first | exact one3 | exact one9 | exact one4 | exact one51)) rfl rfl ?_ | refine jy (yload (i := 3) rfl rfl rfl (by first | exact one3 | exact one9 | exact one4 | exact one51)) rfl rfl ?_ | refine jy (yloads (i := 1) rfl rfl (by first | exact ag53 | exact ag27 | exact ag32)) rfl rfl ?_) | (show J _ _ _ _ _ _ (⟨_, .assign _, _, _, _, _⟩ :: _) _ _; refine jy (yassign rfl) rfl rfl ?_) | (show J _ _ _ _ _ _ (⟨_, .binOp _ _ _ _ _, _, _, _, _⟩ :: _) _ _; first | refine jy (ygtr rfl rfl (by first | exact decide_eq_true (by omega) | exact decide_eq_false (by omega))) rfl rfl ?_ | refine jgtr rfl rfl rfl rfl (fun hq => ?_) (fun hq => ?_) | refine jseql rfl rfl rfl rfl (fun hq => ?_) (fun hq => ?_) | refine jsneq rfl rfl rfl rfl (fun hq => ?_) (fun hq => ?_) | refine jy (ysadd rfl rfl (by omega) rfl) rfl rfl ?_ | refine jy (ysub rfl rfl (i64_in (by omega) (by omega))) rfl rfl ?_ | refine jy (yadd rfl rfl (i64_in (by omega) (by omega))) rfl rfl ?_ | refine jy (ylss rfl rfl (by first | exact decide_eq_true (by omega) | exact decide_eq_false (by omega))) rfl rfl ?_ | refine jlss rfl rfl rfl rfl (fun hq => ?_) (fun hq => ?_) | refine jy (yeql rfl rfl (by first | exact decide_eq_true (by omega) | exact decide_eq_false (by omega))) rfl rfl ?_ | refine jeql rfl rfl rfl rfl (fun hq => ?_) (fun hq => ?_) | refine jy (ygeq rfl rfl (by first | exact decide_eq_true (by omega) | exact decide_eq_false (by omega))) rfl rfl ?_ | refine jgeq rfl rfl rfl rfl (fun hq => ?_) (fun hq => ?_)) | (show J _ _ _ _ _ _ (⟨_, .store _ _ _, _, _, _, _⟩ :: _) _ _; first | refine jstore (i := 0) rfl rfl rfl rfl rfl (by first | exact si3 | exact si9 | exact si51 | exact si4 | exact si53 | exact si27 | exact si49) (by first | exact hS | exact .inr hT) ?_ | refine jstore (i := 1) rfl rfl rfl rfl rfl (by first | exact si3 | exact si9 | exact si51 | exact si4 | exact si53 | exact si27 | exact si49) (by first | exact hS | exact .inr hT) ?_ | refine jstores (i := 0) rfl rfl rfl rfl rfl (by first | exact si3 | exact si9 | exact si51 | exact si4 | exact si53 | exact si27 | exact si49) (.inr hT) ?_ | refine jstores (i := 0) rfl rfl rfl rfl rfl (by first | exact si27 | exact si49 | exact si53) (.inr (by assumption)) ?_ | refine jstorep (i := 1) rfl rfl rfl rfl rfl sz30 (.inr (by assumption)) ?_ | refine jstore (i := 0) rfl rfl rfl rfl rfl (by first | exact si3 | exact si4) (.inr (by assumption)) ?_ | refine jstore (i := 1) rfl rfl rfl rfl rfl (by first | exact si3 | exact si4) (.inr (by assumption)) ?_) | (show J _ _ _ _ _ _ (⟨_, .pick _ _ _, _, _, _, _⟩ :: _) _ _; first | refine jy (ypick1 rfl rfl) rfl rfl ?_ | refine jy (ypick0 rfl rfl) rfl rfl ?_) | (show J _ _ _ _ _ _ (⟨_, .unOp _ _ _, _, _, _, _⟩ :: _) _ _; refine jy (ynot rfl rfl) rfl rfl ?_) | (show J _ _ _ _ _ _ (⟨_, .index _ _ _, _, _, _, _⟩ :: _) _ _; refine jy (yidx (c := bt _ _) rfl rfl und9 (by omega) (by omega) rfl) rfl rfl ?_) | (show J _ _ _ _ _ _ (⟨_, .slice _ _ _ _ _, _, _, _, _⟩ :: _) _ _; refine jy (yslice rfl rfl rfl und9 (by omega) (by omega) (by omega) rfl) rfl rfl ?_) | (show J _ _ _ _ _ _ (⟨_, .call _, _, _, _, _⟩ :: _) _ _; first | (show J _ _ _ _ _ _ (⟨_, .call ⟨.value (.func 20), _, _⟩, _, _, _, _⟩ :: _) _ _; refine jcallq bo20 rfl rfl rfl (quietC fun w' hw' => laws_zzFits1.calls k1 A0 c0 l b1 w' (Kd.C_below hr0 (hw'.2.below (fun _ _ h => h) (Nat.le_refl _))) hc0 hk1) ?_; refine jcases (fun hq => ?_) (fun hq => ?_)) | (show J _ _ _ _ _ _ (⟨_, .call ⟨.value (.func 21), _, _⟩, _, _, _, _⟩ :: _) _ _; obtain ⟨b2, he2, hb2⟩ := tagsKnown_ev (s := s) (by omega) pos l (by omega) (hb1 (by assumption)); obtain ⟨k2, hk2⟩ := he2.rounds; refine jcallq bo21 rfl rfl rfl (quietC fun w' hw' => spec_TagsKnown.calls k2 s pos A0 c0 l b2 w' (Kd.C_below hr0 (hw'.2.below (fun _ _ h => h) (Nat.le_refl _))) hc0 hk2) ?_; refine jcases (fun hq => ?_) (fun hq => ?_)) | refine jy (ylenl rfl und28) rfl rfl ?_ | (show J _ _ _ _ _ _ (⟨_, .call ⟨.value (.func 17), _, _⟩, _, _, _, _⟩ :: _) _ _; refine jcallq bo17 rfl rfl rfl (hasBC _ _ (by omega) (by decide) _ _) ?_; refine jcases (fun hq => ?_) (fun hq => ?_)) | (show J _ _ _ _ _ _ (⟨_, .call ⟨.value (.func 16), _, _⟩, _, _, _, _⟩ :: _) _ _; refine jcallq bo16 rfl rfl rfl (lettersC _ (by omega) _ _) ?_; refine jcases (fun hq => ?_) (fun hq => ?_)) | (show J _ _ _ _ _ _ (⟨_, .call ⟨.value (.func 24), _, _⟩, _, _, _, _⟩ :: _) _ _; refine jcallq bo24 rfl rfl rfl (beginsC _ _ (by omega) (by decide) _ _) ?_; refine jcases (fun hq => ?_) (fun hq => ?_)) | refine jy (ylens rfl und9) rfl rfl ?_ | refine jy (ylenl rfl und24) rfl rfl ?_) | (show J _ _ _ _ _ _ (⟨_, .extract _ _, _, _, _, _⟩ :: _) _ _; refine jy (yextractL rfl rfl) rfl rfl ?_)  | (show J _ _ _ _ _ _ (⟨_, .build _ _, _, _, _, _⟩ :: _) _ _; refine jy (ybuild rfl (by first | exact bu0 | exact bu3 _)) rfl rfl ?_)))
  all_goals first
    | exact post _ _ rfl
    | exact absurd rfl hq
    | skip
  obtain ⟨hAsc, p, rfl, hp, hkn⟩ := hb2 (by assumption)
  obtain ⟨r, hr, hev⟩ := tags_ev' hAsc (by omega) l (by omega) p hkn
  obtain ⟨k3, hk3⟩ := hev.rounds
  have hrl : r.length = l.length := by have := tags_at hr; simpa using this
  repeat' (first | (show PJ _ (Code.wp _ _ _) _ _; first | refine cseq ?_ | refine rtext ?_ | refine ctrue rfl ?_ | refine cfalse rfl ?_ | refine cskip ?_ | refine cblk ?_ | refine cret ?_ | refine cexit ?_ | refine csplit' rfl (fun hq => ?_) (fun hq => ?_)  | refine rquiet mixed (by kernel_rfl) ?_) | (show PJ _ (Exit.then _ _ _) _ _; first | refine tnorm ?_ | refine tret ?_ | refine texit ?_) | (show PJ _ (Exit.inBlock _ _ _) _ _; first | refine bnorm ?_ | refine bret ?_ | refine bexit ?_ | refine bother rfl ?_) | (show PJ _ (wpList _ _ _ _) _ _; refine jlist ?_) | (show J _ _ _ _ _ _ [] _ _; refine jnil ?_) | (show J _ _ _ _ _ _ (_ :: _) _ _; first | refine js rfl rfl ?_ | (show J _ _ _ _ _ _ (⟨_, .move _, _, _, _, _⟩ :: _) _ _; refine jy (ymove rfl) rfl rfl ?_) | (show J _ _ _ _ _ _ (⟨_, .nilCheck _, _, _, _, _⟩ :: _) _ _; refine jy (ynil rfl) rfl rfl ?_) | (show J _ _ _ _ _ _ (⟨_, .fieldAddr _ _ _, _, _, _, _⟩ :: _) _ _; refine jy (yfield rfl (by first | exact fb27_0 | exact fb27_1 | exact fb27_2 | exact fb32_0 | exact fb32_1 | exact fb32_2 | exact fb53_0 | exact fb53_1 | exact fb53_2 | exact fb53_3 | exact fb30_0 | exact fb30_1 | exact fb30_2 | exact fb30_3) rfl) rfl rfl ?_) | (show J _ _ _ _ _ _ (⟨_, .load _ _, _, _, _, _⟩ :: _) _ _; first | refine jy (yload (i := 0) rfl rfl rfl (by first | exact one3 | exact one9 | exact one4 | exact one51)) rfl rfl ?_ | refine jy (yload (i := 1) rfl rfl rfl (by first | exact one3 | exact one9 | exact one4 | exact one51)) rfl rfl ?_ | refine jy (yloads (i := 0) rfl rfl (by first | exact ag53 | exact ag27 | exact ag32)) rfl rfl ?_ | refine jy (yload (i := 2) rfl rfl rfl (by first | exact one3 | exact one9 | exact one4 | exact one51)) rfl rfl ?_ | refine jy (yload (i := 3) rfl rfl rfl (by first | exact one3 | exact one9 | exact one4 | exact one51)) rfl rfl ?_ | refine jy (yloads (i := 1) rfl rfl (by first | exact ag53 | exact ag27 | exact ag32)) rfl rfl ?_) | (show J _ _ _ _ _ _ (⟨_, .assign _, _, _, _, _⟩ :: _) _ _; refine jy (yassign rfl) rfl rfl ?_) | (show J _ _ _ _ _ _ (⟨_, .binOp _ _ _ _ _, _, _, _, _⟩ :: _) _ _; first  | refine jy (yadd rfl rfl (i64_in (by omega) (by omega))) rfl rfl ?_ | refine jy (ylss rfl rfl (by first | exact decide_eq_true (by omega) | exact decide_eq_false (by omega))) rfl rfl ?_ | refine jlss rfl rfl rfl rfl (fun hq => ?_) (fun hq => ?_) | refine jy (yeql rfl rfl (by first | exact decide_eq_true (by omega) | exact decide_eq_false (by omega))) rfl rfl ?_ | refine jeql rfl rfl rfl rfl (fun hq => ?_) (fun hq => ?_) | refine jy (ygeq rfl rfl (by first | exact decide_eq_true (by omega) | exact decide_eq_false (by omega))) rfl rfl ?_ | refine jgeq rfl rfl rfl rfl (fun hq => ?_) (fun hq => ?_)) | (show J _ _ _ _ _ _ (⟨_, .store _ _ _, _, _, _, _⟩ :: _) _ _; first | refine jstore (i := 0) rfl rfl rfl rfl rfl (by first | exact si3 | exact si9 | exact si51 | exact si4 | exact si53 | exact si27 | exact si49) (by first | exact hS | exact .inr hT) ?_ | refine jstore (i := 1) rfl rfl rfl rfl rfl (by first | exact si3 | exact si9 | exact si51 | exact si4 | exact si53 | exact si27 | exact si49) (by first | exact hS | exact .inr hT) ?_ | refine jstores (i := 0) rfl rfl rfl rfl rfl (by first | exact si3 | exact si9 | exact si51 | exact si4 | exact si53 | exact si27 | exact si49) (.inr hT) ?_ | refine jstores (i := 0) rfl rfl rfl rfl rfl (by first | exact si27 | exact si49 | exact si53) (.inr (by assumption)) ?_ | refine jstorep (i := 1) rfl rfl rfl rfl rfl sz30 (.inr (by assumption)) ?_ | refine jstore (i := 0) rfl rfl rfl rfl rfl (by first | exact si3 | exact si4) (.inr (by assumption)) ?_ | refine jstore (i := 1) rfl rfl rfl rfl rfl (by first | exact si3 | exact si4) (.inr (by assumption)) ?_) | (show J _ _ _ _ _ _ (⟨_, .pick _ _ _, _, _, _, _⟩ :: _) _ _; first | refine jy (ypick1 rfl rfl) rfl rfl ?_ | refine jy (ypick0 rfl rfl) rfl rfl ?_) | (show J _ _ _ _ _ _ (⟨_, .unOp _ _ _, _, _, _, _⟩ :: _) _ _; refine jy (ynot rfl rfl) rfl rfl ?_) | (show J _ _ _ _ _ _ (⟨_, .index _ _ _, _, _, _, _⟩ :: _) _ _; refine jy (yidx (c := bt _ _) rfl rfl und9 (by omega) (by omega) rfl) rfl rfl ?_) | (show J _ _ _ _ _ _ (⟨_, .slice _ _ _ _ _, _, _, _, _⟩ :: _) _ _; refine jy (yslice rfl rfl rfl und9 (by omega) (by omega) (by omega) rfl) rfl rfl ?_) | (show J _ _ _ _ _ _ (⟨_, .call _, _, _, _, _⟩ :: _) _ _; first | (show J _ _ _ _ _ _ (⟨_, .call ⟨.value (.func 18), _, _⟩, _, _, _, _⟩ :: _) _ _; refine jcall (ι := Row) (v := fun row => row.val l.length) (m' := fun row => row.mem (r.flatMap NextW.Told.cells) 32) (fun row => row.ok w.heap.size 6 l.length (r.flatMap NextW.Told.cells)) bo18 rfl rfl rfl (tagsIn s p l A0 c0 r _ (fun _ h => h) hr0 (by omega) (by omega) hr) (fun row hrow => ?_)) | (show J _ _ _ _ _ _ (⟨_, .call ⟨.value (.func 22), _, _⟩, _, _, _, _⟩ :: _) _ _; refine jcallR (m' := row.mem (r.flatMap NextW.Told.cells) 32) (fun _ => False) (fun v w' => ∃ B, Kd.R k32 32 w' B (fun _ => True) v (r.map conv)) bo22 rfl rfl rfl (fun w' hw' => (spec_Tags.calls k3 s (p : Nat) A0 c0 l (r.map conv) w' (Kd.C_below hr0 (hw'.2.below (fun _ _ h => h) (Nat.le_refl _))) hc0 hk3).mono fun e w'' ⟨v, he, hR, hb⟩ => ⟨v, he, Rx.Cl.below hw' hb, _, hR⟩) (fun v w1 hR hm1 he1 => ?_))) | (show J _ _ _ _ _ _ (⟨_, .extract _ _, _, _, _, _⟩ :: _) _ _; refine jy (yextractL rfl rfl) rfl rfl ?_)  | (show J _ _ _ _ _ _ (⟨_, .build _ _, _, _, _, _⟩ :: _) _ _; refine jy (ybuild rfl (by first | exact bu0 | exact bu3 _)) rfl rfl ?_)))
  obtain ⟨A1, c1, E1, ht1⟩ := told_of_row (l := r) (row := row) hm1 (fun x hx => hx) (by rw [hrl]; exact hrow)
  obtain ⟨B', hR'⟩ := hR
  obtain ⟨A2, c2, rfl, ht2⟩ := told_of_R hR'
  rw [hrl] at E1
  rw [hrl, E1]
  have post2 : ∀ (f : Fr) (m : Mem), Rx.look f 6 = some (.bool true) → PJ ⟨61, [], fun _ => False, w1⟩ (bodyPost Tryd.prog Tryd.f5 (fun e w' => e = .returned (.bool true) ∧ Below w.heap.size w w') .ret) f m := fun f m hf =>
    ret1 rfl rfl hf (fun w' hw' => ⟨rfl, (he1.trans (hw'.2.mono fun _ _ h => h)).below (fun k _ h => h) (Nat.le_refl _)⟩)
  clear hR' E1 hm1 hr hev hk3 hkn
  repeat' (first | (show PJ _ (Code.wp _ _ _) _ _; first | refine cseq ?_ | refine rtext ?_ | refine ctrue rfl ?_ | refine cfalse rfl ?_ | refine cskip ?_ | refine cblk ?_ | refine cret ?_ | refine cexit ?_ | refine csplit' rfl (fun hq => ?_) (fun hq => ?_)  | refine rquiet mixed (by kernel_rfl) ?_) | (show PJ _ (Exit.then _ _ _) _ _; first | refine tnorm ?_ | refine tret ?_ | refine texit ?_) | (show PJ _ (Exit.inBlock _ _ _) _ _; first | refine bnorm ?_ | refine bret ?_ | refine bexit ?_ | refine bother rfl ?_) | (show PJ _ (wpList _ _ _ _) _ _; refine jlist ?_) | (show J _ _ _ _ _ _ [] _ _; refine jnil ?_) | (show J _ _ _ _ _ _ (_ :: _) _ _; first | refine js rfl rfl ?_ | (show J _ _ _ _ _ _ (⟨_, .move _, _, _, _, _⟩ :: _) _ _; refine jy (ymove rfl) rfl rfl ?_) | (show J _ _ _ _ _ _ (⟨_, .nilCheck _, _, _, _, _⟩ :: _) _ _; refine jy (ynil rfl) rfl rfl ?_) | (show J _ _ _ _ _ _ (⟨_, .fieldAddr _ _ _, _, _, _, _⟩ :: _) _ _; refine jy (yfield rfl (by first | exact fb27_0 | exact fb27_1 | exact fb27_2 | exact fb32_0 | exact fb32_1 | exact fb32_2 | exact fb53_0 | exact fb53_1 | exact fb53_2 | exact fb53_3 | exact fb30_0 | exact fb30_1 | exact fb30_2 | exact fb30_3) rfl) rfl rfl ?_) | (show J _ _ _ _ _ _ (⟨_, .load _ _, _, _, _, _⟩ :: _) _ _; first | refine jy (yload (i := 0) rfl rfl rfl (by first | exact one3 | exact one9 | exact one4 | exact one51)) rfl rfl ?_ | refine jy (yload (i := 1) rfl rfl rfl (by first | exact one3 | exact one9 | exact one4 | exact one51)) rfl rfl ?_ | refine jy (yloads (i := 0) rfl rfl (by first | exact ag53 | exact ag27 | exact ag32)) rfl rfl ?_ | refine jy (yload (i := 2) rfl rfl rfl (by first | exact one3 | exact one9 | exact one4 | exact one51)) rfl rfl ?_ | refine jy (yload (i := 3) rfl rfl rfl (by first | exact one3 | exact one9 | exact one4 | exact one51)) rfl rfl ?_ | refine jy (yloads (i := 1) rfl rfl (by first | exact ag53 | exact ag27 | exact ag32)) rfl rfl ?_) | (show J _ _ _ _ _ _ (⟨_, .assign _, _, _, _, _⟩ :: _) _ _; refine jy (yassign rfl) rfl rfl ?_) | (show J _ _ _ _ _ _ (⟨_, .binOp _ _ _ _ _, _, _, _, _⟩ :: _) _ _; first | refine jy (yneq rfl rfl (by first | exact decide_eq_false (by omega) | exact decide_eq_true (by omega))) rfl rfl ?_ | refine jy (yadd rfl rfl (i64_in (by omega) (by omega))) rfl rfl ?_ | refine jy (ylss rfl rfl (by first | exact decide_eq_true (by omega) | exact decide_eq_false (by omega))) rfl rfl ?_ | refine jlss rfl rfl rfl rfl (fun hq => ?_) (fun hq => ?_) | refine jy (yeql rfl rfl (by first | exact decide_eq_true (by omega) | exact decide_eq_false (by omega))) rfl rfl ?_ | refine jeql rfl rfl rfl rfl (fun hq => ?_) (fun hq => ?_) | refine jy (ygeq rfl rfl (by first | exact decide_eq_true (by omega) | exact decide_eq_false (by omega))) rfl rfl ?_ | refine jgeq rfl rfl rfl rfl (fun hq => ?_) (fun hq => ?_)) | (show J _ _ _ _ _ _ (⟨_, .store _ _ _, _, _, _, _⟩ :: _) _ _; first | refine jstore (i := 0) rfl rfl rfl rfl rfl (by first | exact si3 | exact si9 | exact si51 | exact si4 | exact si53 | exact si27 | exact si49) (by first | exact hS | exact .inr hT) ?_ | refine jstore (i := 1) rfl rfl rfl rfl rfl (by first | exact si3 | exact si9 | exact si51 | exact si4 | exact si53 | exact si27 | exact si49) (by first | exact hS | exact .inr hT) ?_ | refine jstores (i := 0) rfl rfl rfl rfl rfl (by first | exact si3 | exact si9 | exact si51 | exact si4 | exact si53 | exact si27 | exact si49) (.inr hT) ?_ | refine jstores (i := 0) rfl rfl rfl rfl rfl (by first | exact si27 | exact si49 | exact si53) (.inr (by assumption)) ?_ | refine jstorep (i := 1) rfl rfl rfl rfl rfl sz30 (.inr (by assumption)) ?_ | refine jstore (i := 0) rfl rfl rfl rfl rfl (by first | exact si3 | exact si4) (.inr (by assumption)) ?_ | refine jstore (i := 1) rfl rfl rfl rfl rfl (by first | exact si3 | exact si4) (.inr (by assumption)) ?_) | (show J _ _ _ _ _ _ (⟨_, .pick _ _ _, _, _, _, _⟩ :: _) _ _; first | refine jy (ypick1 rfl rfl) rfl rfl ?_ | refine jy (ypick0 rfl rfl) rfl rfl ?_) | (show J _ _ _ _ _ _ (⟨_, .unOp _ _ _, _, _, _, _⟩ :: _) _ _; refine jy (ynot rfl rfl) rfl rfl ?_) | (show J _ _ _ _ _ _ (⟨_, .index _ _ _, _, _, _, _⟩ :: _) _ _; refine jy (yidx (c := bt _ _) rfl rfl und9 (by omega) (by omega) rfl) rfl rfl ?_) | (show J _ _ _ _ _ _ (⟨_, .slice _ _ _ _ _, _, _, _, _⟩ :: _) _ _; refine jy (yslice rfl rfl rfl und9 (by omega) (by omega) (by omega) rfl) rfl rfl ?_) | (show J _ _ _ _ _ _ (⟨_, .call _, _, _, _, _⟩ :: _) _ _; first | refine jy (ylenl rfl und24) rfl rfl ?_) | (show J _ _ _ _ _ _ (⟨_, .extract _ _, _, _, _, _⟩ :: _) _ _; refine jy (yextractL rfl rfl) rfl rfl ?_)  | (show J _ _ _ _ _ _ (⟨_, .build _ _, _, _, _, _⟩ :: _) _ _; refine jy (ybuild rfl (by first | exact bu0 | exact bu3 _)) rfl rfl ?_)))
  refine less (f' := [(7, .slice A1 l.length c1), (8, .slice A2 l.length c2), (47, .int .i64 l.length), (48, .int .i64 0)]) (m' := []) (Sub.all ⟨rfl, rfl, rfl, rfl, trivial⟩) (List.nil_sublist _)
    (cloop (ι := Nat) (fun j => [(7, .slice A1 l.length c1), (8, .slice A2 l.length c2), (47, .int .i64 l.length), (48, .int .i64 (j : Nat))]) (fun _ => []) (fun k j => j ≤ l.length ∧ k = l.length - j) l.length 0 ⟨Nat.zero_le _, rfl⟩ ?_)
  rintro k j ⟨hj, rfl⟩ K hK
  by_cases hlt : j < l.length
  · obtain ⟨x, hx⟩ : ∃ x, r[j]? = some x := ⟨_, List.getElem?_eq_getElem (by omega)⟩
    obtain ⟨ad, rfl, hca0⟩ := ht1 j x hx
    obtain ⟨bd, rfl, hcb0⟩ := ht2 j x hx
    obtain ⟨ty, nm, sf, st, ok, ps⟩ := x
    have hca : ∀ (k : Nat) v, ([.int .i64 ty, .string nm, .bool sf, .int .i64 st, .bool ok, .int .i64 (ps : Nat)] : List Value)[k]? = some v → w1.cell? ((ad.add (j * 6)).add k) = some v := hca0
    have hcb : ∀ (k : Nat) v, ([.int .i64 ty, .string nm, .bool sf, .int .i64 st, .bool ok, .int .i64 (ps : Nat)] : List Value)[k]? = some v → w1.cell? ((bd.add (j * 6)).add k) = some v := hcb0
    clear hca0 hcb0
    repeat' (first | (show J _ _ _ _ _ _ (⟨_, .indexAddr _ _ _, _, _, _, _⟩ :: _) _ _; first | refine jy (yat (p := ad) (p' := ad.add (j * 6)) rfl rfl und24 sz32 (by omega) (by omega) rfl) rfl rfl ?_ | refine jy (yat (p := bd) (p' := bd.add (j * 6)) rfl rfl und24 sz32 (by omega) (by omega) rfl) rfl rfl ?_) | (show J _ _ _ _ _ _ (⟨_, .load 32 _, _, _, _, _⟩ :: _) _ _; first | refine jy (yloadsw (p := ad.add (j * 6)) rfl hca (fun h => h) ag32) rfl rfl ?_ | refine jy (yloadsw (p := bd.add (j * 6)) rfl hcb (fun h => h) ag32) rfl rfl ?_) | (show J _ _ _ _ _ _ (⟨_, .binOp .neq 32 _ _ _, _, _, _, _⟩ :: _) _ _; refine jy (yneA (xs := [_, _, _, _, _, _]) (ys := [_, _, _, _, _, _]) (c := true) rfl rfl eg32 (es32 _ _ _ _ _ _)) rfl rfl ?_) | first | (show PJ _ (Code.wp _ _ _) _ _; first | refine cseq ?_ | refine rtext ?_ | refine ctrue rfl ?_ | refine cfalse rfl ?_ | refine cskip ?_ | refine cblk ?_ | refine cret ?_ | refine cexit ?_ | refine csplit' rfl (fun hq => ?_) (fun hq => ?_)  | refine rquiet mixed (by kernel_rfl) ?_) | (show PJ _ (Exit.then _ _ _) _ _; first | refine tnorm ?_ | refine tret ?_ | refine texit ?_) | (show PJ _ (Exit.inBlock _ _ _) _ _; first | refine bnorm ?_ | refine bret ?_ | refine bexit ?_ | refine bother rfl ?_) | (show PJ _ (wpList _ _ _ _) _ _; refine jlist ?_) | (show J _ _ _ _ _ _ [] _ _; refine jnil ?_) | (show J _ _ _ _ _ _ (_ :: _) _ _; first | refine js rfl rfl ?_ | (show J _ _ _ _ _ _ (⟨_, .move _, _, _, _, _⟩ :: _) _ _; refine jy (ymove rfl) rfl rfl ?_) | (show J _ _ _ _ _ _ (⟨_, .nilCheck _, _, _, _, _⟩ :: _) _ _; refine jy (ynil rfl) rfl rfl ?_) | (show J _ _ _ _ _ _ (⟨_, .fieldAddr _ _ _, _, _, _, _⟩ :: _) _ _; refine jy (yfield rfl (by first | exact fb27_0 | exact fb27_1 | exact fb27_2 | exact fb32_0 | exact fb32_1 | exact fb32_2 | exact fb53_0 | exact fb53_1 | exact fb53_2 | exact fb53_3 | exact fb30_0 | exact fb30_1 | exact fb30_2 | exact fb30_3) rfl) rfl rfl ?_) | (show J _ _ _ _ _ _ (⟨_, .load _ _, _, _, _, _⟩ :: _) _ _; first | refine jy (yload (i := 0) rfl rfl rfl (by first | exact one3 | exact one9 | exact one4 | exact one51)) rfl rfl ?_ | refine jy (yload (i := 1) rfl rfl rfl (by first | exact one3 | exact one9 | exact one4 | exact one51)) rfl rfl ?_ | refine jy (yloads (i := 0) rfl rfl (by first | exact ag53 | exact ag27 | exact ag32)) rfl rfl ?_ | refine jy (yload (i := 2) rfl rfl rfl (by first | exact one3 | exact one9 | exact one4 | exact one51)) rfl rfl ?_ | refine jy (yload (i := 3) rfl rfl rfl (by first | exact one3 | exact one9 | exact one4 | exact one51)) rfl rfl ?_ | refine jy (yloads (i := 1) rfl rfl (by first | exact ag53 | exact ag27 | exact ag32)) rfl rfl ?_) | (show J _ _ _ _ _ _ (⟨_, .assign _, _, _, _, _⟩ :: _) _ _; refine jy (yassign rfl) rfl rfl ?_) | (show J _ _ _ _ _ _ (⟨_, .binOp _ _ _ _ _, _, _, _, _⟩ :: _) _ _; first | refine jy (yadd (c := ((j + 1 : Nat) : Int)) rfl rfl (by rw [i64_in (by omega) (by omega)]; omega)) rfl rfl ?_ | refine jy (yneq rfl rfl (by first | exact decide_eq_false (by omega) | exact decide_eq_true (by omega))) rfl rfl ?_ | refine jy (yadd rfl rfl (i64_in (by omega) (by omega))) rfl rfl ?_ | refine jy (ylss rfl rfl (by first | exact decide_eq_true (by omega) | exact decide_eq_false (by omega))) rfl rfl ?_ | refine jlss rfl rfl rfl rfl (fun hq => ?_) (fun hq => ?_) | refine jy (yeql rfl rfl (by first | exact decide_eq_true (by omega) | exact decide_eq_false (by omega))) rfl rfl ?_ | refine jeql rfl rfl rfl rfl (fun hq => ?_) (fun hq => ?_) | refine jy (ygeq rfl rfl (by first | exact decide_eq_true (by omega) | exact decide_eq_false (by omega))) rfl rfl ?_ | refine jgeq rfl rfl rfl rfl (fun hq => ?_) (fun hq => ?_)) | (show J _ _ _ _ _ _ (⟨_, .store _ _ _, _, _, _, _⟩ :: _) _ _; first | refine jstore (i := 0) rfl rfl rfl rfl rfl (by first | exact si3 | exact si9 | exact si51 | exact si4 | exact si53 | exact si27 | exact si49) (by first | exact hS | exact .inr hT) ?_ | refine jstore (i := 1) rfl rfl rfl rfl rfl (by first | exact si3 | exact si9 | exact si51 | exact si4 | exact si53 | exact si27 | exact si49) (by first | exact hS | exact .inr hT) ?_ | refine jstores (i := 0) rfl rfl rfl rfl rfl (by first | exact si3 | exact si9 | exact si51 | exact si4 | exact si53 | exact si27 | exact si49) (.inr hT) ?_ | refine jstores (i := 0) rfl rfl rfl rfl rfl (by first | exact si27 | exact si49 | exact si53) (.inr (by assumption)) ?_ | refine jstorep (i := 1) rfl rfl rfl rfl rfl sz30 (.inr (by assumption)) ?_ | refine jstore (i := 0) rfl rfl rfl rfl rfl (by first | exact si3 | exact si4) (.inr (by assumption)) ?_ | refine jstore (i := 1) rfl rfl rfl rfl rfl (by first | exact si3 | exact si4) (.inr (by assumption)) ?_) | (show J _ _ _ _ _ _ (⟨_, .pick _ _ _, _, _, _, _⟩ :: _) _ _; first | refine jy (ypick1 rfl rfl) rfl rfl ?_ | refine jy (ypick0 rfl rfl) rfl rfl ?_) | (show J _ _ _ _ _ _ (⟨_, .unOp _ _ _, _, _, _, _⟩ :: _) _ _; refine jy (ynot rfl rfl) rfl rfl ?_) | (show J _ _ _ _ _ _ (⟨_, .index _ _ _, _, _, _, _⟩ :: _) _ _; refine jy (yidx (c := bt _ _) rfl rfl und9 (by omega) (by omega) rfl) rfl rfl ?_) | (show J _ _ _ _ _ _ (⟨_, .slice _ _ _ _ _, _, _, _, _⟩ :: _) _ _; refine jy (yslice rfl rfl rfl und9 (by omega) (by omega) (by omega) rfl) rfl rfl ?_) | (show J _ _ _ _ _ _ (⟨_, .call _, _, _, _, _⟩ :: _) _ _; first | refine jy (ylenl rfl und24) rfl rfl ?_) | (show J _ _ _ _ _ _ (⟨_, .extract _ _, _, _, _, _⟩ :: _) _ _; refine jy (yextractL rfl rfl) rfl rfl ?_)  | (show J _ _ _ _ _ _ (⟨_, .build _ _, _, _, _, _⟩ :: _) _ _; refine jy (ybuild rfl (by first | exact bu0 | exact bu3 _)) rfl rfl ?_)))
    exact less (f' := [(7, .slice (some ad) l.length c1), (8, .slice (some bd) l.length c2), (47, .int .i64 l.length), (48, .int .i64 ((j + 1 : Nat) : Int))]) (m' := []) (Sub.all ⟨rfl, rfl, rfl, rfl, trivial⟩) (List.nil_sublist _) (hK (l.length - (j + 1)) (j + 1) (by omega) ⟨by omega, rfl⟩)
  · obtain rfl : j = l.length := by omega
    repeat' (first | (show PJ _ (Code.wp _ _ _) _ _; first | refine cseq ?_ | refine rtext ?_ | refine ctrue rfl ?_ | refine cfalse rfl ?_ | refine cskip ?_ | refine cblk ?_ | refine cret ?_ | refine cexit ?_ | refine csplit' rfl (fun hq => ?_) (fun hq => ?_)  | refine rquiet mixed (by kernel_rfl) ?_) | (show PJ _ (Exit.then _ _ _) _ _; first | refine tnorm ?_ | refine tret ?_ | refine texit ?_) | (show PJ _ (Exit.inBlock _ _ _) _ _; first | refine bnorm ?_ | refine bret ?_ | refine bexit ?_ | refine bother rfl ?_) | (show PJ _ (wpList _ _ _ _) _ _; refine jlist ?_) | (show J _ _ _ _ _ _ [] _ _; refine jnil ?_) | (show J _ _ _ _ _ _ (_ :: _) _ _; first | refine js rfl rfl ?_ | (show J _ _ _ _ _ _ (⟨_, .move _, _, _, _, _⟩ :: _) _ _; refine jy (ymove rfl) rfl rfl ?_) | (show J _ _ _ _ _ _ (⟨_, .nilCheck _, _, _, _, _⟩ :: _) _ _; refine jy (ynil rfl) rfl rfl ?_) | (show J _ _ _ _ _ _ (⟨_, .fieldAddr _ _ _, _, _, _, _⟩ :: _) _ _; refine jy (yfield rfl (by first | exact fb27_0 | exact fb27_1 | exact fb27_2 | exact fb32_0 | exact fb32_1 | exact fb32_2 | exact fb53_0 | exact fb53_1 | exact fb53_2 | exact fb53_3 | exact fb30_0 | exact fb30_1 | exact fb30_2 | exact fb30_3) rfl) rfl rfl ?_) | (show J _ _ _ _ _ _ (⟨_, .load _ _, _, _, _, _⟩ :: _) _ _; first | refine jy (yload (i := 0) rfl rfl rfl (by first | exact one3 | exact one9 | exact one4 | exact one51)) rfl rfl ?_ | refine jy (yload (i := 1) rfl rfl rfl (by first | exact one3 | exact one9 | exact one4 | exact one51)) rfl rfl ?_ | refine jy (yloads (i := 0) rfl rfl (by first | exact ag53 | exact ag27 | exact ag32)) rfl rfl ?_ | refine jy (yload (i := 2) rfl rfl rfl (by first | exact one3 | exact one9 | exact one4 | exact one51)) rfl rfl ?_ | refine jy (yload (i := 3) rfl rfl rfl (by first | exact one3 | exact one9 | exact one4 | exact one51)) rfl rfl ?_ | refine jy (yloads (i := 1) rfl rfl (by first | exact ag53 | exact ag27 | exact ag32)) rfl rfl ?_) | (show J _ _ _ _ _ _ (⟨_, .assign _, _, _, _, _⟩ :: _) _ _; refine jy (yassign rfl) rfl rfl ?_) | (show J _ _ _ _ _ _ (⟨_, .binOp _ _ _ _ _, _, _, _, _⟩ :: _) _ _; first | refine jy (yadd (c := ((j + 1 : Nat) : Int)) rfl rfl (by rw [i64_in (by omega) (by omega)]; omega)) rfl rfl ?_ | refine jy (yneq rfl rfl (by first | exact decide_eq_false (by omega) | exact decide_eq_true (by omega))) rfl rfl ?_ | refine jy (yadd rfl rfl (i64_in (by omega) (by omega))) rfl rfl ?_ | refine jy (ylss rfl rfl (by first | exact decide_eq_true (by omega) | exact decide_eq_false (by omega))) rfl rfl ?_ | refine jlss rfl rfl rfl rfl (fun hq => ?_) (fun hq => ?_) | refine jy (yeql rfl rfl (by first | exact decide_eq_true (by omega) | exact decide_eq_false (by omega))) rfl rfl ?_ | refine jeql rfl rfl rfl rfl (fun hq => ?_) (fun hq => ?_) | refine jy (ygeq rfl rfl (by first | exact decide_eq_true (by omega) | exact decide_eq_false (by omega))) rfl rfl ?_ | refine jgeq rfl rfl rfl rfl (fun hq => ?_) (fun hq => ?_)) | (show J _ _ _ _ _ _ (⟨_, .store _ _ _, _, _, _, _⟩ :: _) _ _; first | refine jstore (i := 0) rfl rfl rfl rfl rfl (by first | exact si3 | exact si9 | exact si51 | exact si4 | exact si53 | exact si27 | exact si49) (by first | exact hS | exact .inr hT) ?_ | refine jstore (i := 1) rfl rfl rfl rfl rfl (by first | exact si3 | exact si9 | exact si51 | exact si4 | exact si53 | exact si27 | exact si49) (by first | exact hS | exact .inr hT) ?_ | refine jstores (i := 0) rfl rfl rfl rfl rfl (by first | exact si3 | exact si9 | exact si51 | exact si4 | exact si53 | exact si27 | exact si49) (.inr hT) ?_ | refine jstores (i := 0) rfl rfl rfl rfl rfl (by first | exact si27 | exact si49 | exact si53) (.inr (by assumption)) ?_ | refine jstorep (i := 1) rfl rfl rfl rfl rfl sz30 (.inr (by assumption)) ?_ | refine jstore (i := 0) rfl rfl rfl rfl rfl (by first | exact si3 | exact si4) (.inr (by assumption)) ?_ | refine jstore (i := 1) rfl rfl rfl rfl rfl (by first | exact si3 | exact si4) (.inr (by assumption)) ?_) | (show J _ _ _ _ _ _ (⟨_, .pick _ _ _, _, _, _, _⟩ :: _) _ _; first | refine jy (ypick1 rfl rfl) rfl rfl ?_ | refine jy (ypick0 rfl rfl) rfl rfl ?_) | (show J _ _ _ _ _ _ (⟨_, .unOp _ _ _, _, _, _, _⟩ :: _) _ _; refine jy (ynot rfl rfl) rfl rfl ?_) | (show J _ _ _ _ _ _ (⟨_, .index _ _ _, _, _, _, _⟩ :: _) _ _; refine jy (yidx (c := bt _ _) rfl rfl und9 (by omega) (by omega) rfl) rfl rfl ?_) | (show J _ _ _ _ _ _ (⟨_, .slice _ _ _ _ _, _, _, _, _⟩ :: _) _ _; refine jy (yslice rfl rfl rfl und9 (by omega) (by omega) (by omega) rfl) rfl rfl ?_) | (show J _ _ _ _ _ _ (⟨_, .call _, _, _, _, _⟩ :: _) _ _; first | refine jy (ylenl rfl und24) rfl rfl ?_) | (show J _ _ _ _ _ _ (⟨_, .extract _ _, _, _, _, _⟩ :: _) _ _; refine jy (yextractL rfl rfl) rfl rfl ?_)  | (show J _ _ _ _ _ _ (⟨_, .build _ _, _, _, _, _⟩ :: _) _ _; refine jy (ybuild rfl (by first | exact bu0 | exact bu3 _)) rfl rfl ?_)))
    exact post2 _ _ rfl
end Go.Proofs.YthjddnmfpdcjnaaDoor.PFnTags
