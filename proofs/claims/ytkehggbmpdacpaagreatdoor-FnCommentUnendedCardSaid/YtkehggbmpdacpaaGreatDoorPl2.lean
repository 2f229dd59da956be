/- The laws of shortcodes in plain words: closing ones, inline ones, comments, indentations, two dividers. No program. -/
import Derived.Test.YtkehggbmpdacpaaGreatDoorKp15
set_option maxRecDepth 100000
set_option linter.unusedVariables false
set_option linter.unusedSimpArgs false
set_option linter.unusedSectionVars false
namespace Go.Proofs.YtkehggbmpdacpaaGreatDoor.Lex0
open Go.Proofs.YtkehggbmpdacpaaGreatDoor.Dec0 Go.Proofs.YtkehggbmpdacpaaGreatDoor.Txt0
theorem oget_oset (k j : ByteArray) (v : Bool) : ∀ l : List (ByteArray × Bool), oget k (oset j v l) = if j = k then v else oget k l := by
  intro l
  induction l with
  | nil =>
    unfold oset oget
    by_cases h : j = k
    · rw [if_pos h, if_pos h]
    · rw [if_neg h, if_neg h]; rfl
  | cons p l ih =>
    obtain ⟨a, u⟩ := p
    unfold oset
    by_cases ha : a = j
    · rw [if_pos ha]
      unfold oget
      by_cases h : j = k
      · rw [if_pos h, if_pos h]
      · rw [if_neg h, if_neg h, ha, if_neg h]
    · rw [if_neg ha]
      unfold oget
      rw [ih]
      by_cases h : a = k
      · rw [if_pos h, if_pos h, if_neg (fun e => ha (h.trans e.symm))]
      · rw [if_neg h, if_neg h]
structure ProseT (u : T) : Prop where
  asc : asc u
  q : ∀ c ∈ u, c ≠ 123 ∧ c ≠ 60
  last : ∃ d, u.getLast? = some d ∧ isBl d = false
theorem ba_ne {w : T} (h : w ≠ []) : ba w ≠ ⟨#[]⟩ := fun e => h (by
  have := congrArg (fun x : ByteArray => x.data.toList) e
  simpa [ba] using this)
section
variable {E : Env} {s : T} {dv : Bool} {b : Book} {c : Ctl}
theorem g_prose (hT : TrA E) {u r : T} (md : Bool) (hu : u = [] ∨ ProseT u) (ho : c.org = false) (hi : c.inl = true → inlOk E r c.name = true) (hc : [47, 42].isPrefixOf r = false) :
    Go E s dv .main b (u ++ (lf md ++ r)) c .inside ((if u = [] then b else b.put 18 u).left md) r { c with md := md, step := 0, par := 0 } := by
  rcases hu with h | h
  · subst h
    have := g_open (E := E) (s := s) (dv := dv) (b := b) (c := c) hT [] (r := r) md (by intro c hc; cases hc) (by intro c hc; cases hc) (by intro _ _ c hc; cases hc) hi hc
    rw [texts_nil] at this
    exact this
  · obtain ⟨d, h1, h2⟩ := h.last
    have hne : u ≠ [] := by rintro rfl; cases h1
    have := g_open (E := E) (s := s) (dv := dv) (b := b) (c := c) hT u (r := r) md h.asc (fun c hc => (h.q c hc).1) (fun _ _ c hc => by rw [ho]; exact (h.q c hc).2) hi hc
    rw [texts_solid b h1 h2] at this
    rw [if_neg hne]
    exact this
theorem g_proseT (hT : TrA E) {u r : T} (md : Bool) (hu : ProseT u) (ho : c.org = false) (hi : c.inl = true → inlOk E r c.name = true) (hc : [47, 42].isPrefixOf r = false) :
    Go E s dv .main b (u ++ (lf md ++ r)) c .inside ((b.put 18 u).left md) r { c with md := md, step := 0, par := 0 } := by
  obtain ⟨d, h1, h2⟩ := hu.last
  have hne : u ≠ [] := by rintro rfl; cases h1
  have := g_prose (E := E) (s := s) (dv := dv) (b := b) (c := c) (r := r) hT md (.inr hu) ho hi hc
  rw [if_neg hne] at this
  exact this
theorem g_shut (hE : EA E) (hT : TrA E) {w r : T} {md : Bool} (hw : NameT w) (hm : c.md = md) (hn : c.name ≠ ⟨#[]⟩) (ho : oget (ba w) c.op = true) :
    Go E s dv .inside b (47 :: (w ++ 32 :: (rd md ++ r))) c .main ((((b.put 12 [47]).put 13 w).pass [32]).right md) r { ctlN { c with closing := c.closing + 1, inl := false, step := 0 } false w with closing := 0 } := by
  refine Go.trans (g_slash hT hn) ?_
  have h1 := g_name (E := E) (s := s) (dv := dv) (b := b.put 12 [47]) (c := { c with closing := c.closing + 1, inl := false, step := 0 }) (r := rd md ++ r) hE hT hw rfl rfl (.inr ho)
  rw [show (if 0 < ({ c with closing := c.closing + 1, inl := false, step := 0 } : Ctl).closing then St.endsc else .inside) = .endsc from if_pos (Nat.succ_pos _)] at h1
  exact Go.trans h1 (g_endc hT hm rfl)
end
section
variable {E : Env} (hE : EA E) (hT : TrA E) (dv md : Bool) {w : T} (hw : NameT w)
include hE hT hw
theorem law_closed {u : T} (hu : ProseT u) : Tells E (lf md ++ (w ++ 32 :: (rd md ++ (u ++ (lf md ++ (32 :: 47 :: (w ++ 32 :: (rd md ++ [])))))))) false dv
    ((((((((((b0.left md).put 13 w).pass [32]).right md).put 18 u).left md).pass [32]).put 12 [47]).put 13 w).pass [32] |>.right md).fin.l := by
  refine tells_of hT (Go.trans (g_on hE hT md hw rfl rfl) (Go.trans (g_close hT rfl) (Go.trans (g_proseT hT md hu rfl (fun h => by cases h) (no_cm (by decide))) (Go.trans (g_sp [32] (by intro c hc; revert c; decide)) (g_shut hE hT hw rfl (ba_ne hw.ne) ?_)))))
  show oget (ba w) (oset (ba w) true _) = true
  rw [oget_oset, if_pos rfl]
end
section
variable {E : Env} {s : T} {dv : Bool}
end
structure TrI (E : Env) : Prop where
  solid : ∀ t, asc t → (∀ c, t.head? = some c → isSp c.toNat = false) → (∀ c, t.getLast? = some c → isSp c.toNat = false) → E.tr t = t
section
variable {E : Env} {s : T} {dv : Bool} {b : Book} {c : Ctl}
end
section
variable {E : Env} {s : T} {dv : Bool} {b : Book} {c : Ctl}
theorem law_comment (hT : TrA E) (dv md : Bool) {u : T} (ha : asc u) (hu : u ≠ []) (hq : ∀ c ∈ u, c ≠ 42 ∧ c ≠ 47) (hl : ∃ d, u.getLast? = some d ∧ isBl d = false) : Tells E (lf md ++ (47 :: 42 :: (u ++ ([42, 47] ++ rd md)))) false dv ((((((b0.put 18 (lf md)).pass [47, 42]).put 18 u).pass [42, 47]).put 18 (rd md)).fin).l := by
  obtain ⟨d, hl1, hl2⟩ := hl
  generalize hs : lf md ++ (47 :: 42 :: (u ++ ([42, 47] ++ rd md))) = s
  have hlen : (lf md).length = 3 := lf3 md
  have hf : found s dv lx0 = some 0 := by
    obtain ⟨d, hd⟩ := lf_two md
    refine found_left (u := []) (r := d :: (47 :: 42 :: (u ++ ([42, 47] ++ rd md)))) ?_ (by intro c hc; cases hc) (by intro _ c hc; cases hc)
    show s.drop 0 = _
    rw [← hs, hd]; rfl
  have hd0 : s.drop 0 = lf md ++ (47 :: 42 :: (u ++ ([42, 47] ++ rd md))) := by rw [← hs]; rfl
  have s1 := go_left (E := E) (s := s) (dv := dv) (x := lx0) (md := md) (r := 47 :: 42 :: (u ++ ([42, 47] ++ rd md))) hf (Nat.le_refl _) hd0 (fun h => by cases h)
  have hd3 : s.drop 3 = 47 :: 42 :: (u ++ ([42, 47] ++ rd md)) := by
    have := drop_more hd0
    rw [hlen] at this
    exact this
  have s2 := left_cm (E := E) (s := s) (dv := dv) (x := { lx0 with pos := 0, start := 0, items := [], md := md }) (r := u ++ ([42, 47] ++ rd md)) hd3
  have hidx : idx ([42, 47] ++ rd md) (47 :: 42 :: (u ++ ([42, 47] ++ rd md ++ []))) = some (2 + u.length) := by
    have h1 : (([42, 47] : T) ++ rd md) = 42 :: (47 :: rd md) := rfl
    rw [List.append_nil, h1]
    rw [show (47 :: 42 :: (u ++ 42 :: (47 :: rd md)) : T) = [47] ++ (42 :: (u ++ 42 :: (47 :: rd md))) from rfl, idx_skip [47] (by intro c hc; revert c; decide), idx_cons]
    have hn : (42 :: (47 :: rd md)).isPrefixOf (42 :: (u ++ 42 :: (47 :: rd md))) = false := by
      cases u with
      | nil => exact absurd rfl hu
      | cons a u =>
        have := (hq a (List.mem_cons_self ..)).2
        show ((42 : UInt8) == 42 && ((47 : UInt8) == a && _)) = false
        rw [show ((47 : UInt8) == a) = false from by simpa using fun e => this e.symm]
        rfl
    rw [hn, if_neg (by simp), idx_skip u (fun c hc => (hq c hc).1)]
    have h0 : idx (42 :: (47 :: rd md)) (42 :: (47 :: rd md)) = some 0 := by
      have := idx_here (p := 42 :: (47 :: rd md)) (r := []) (by simp)
      rwa [List.append_nil] at this
    rw [h0]
    show some (0 + u.length + 1 + 1) = _
    congr 1
    omega
  have s3 := cm_main (E := E) (s := s) (dv := dv) (x := mv 3 { lx0 with pos := 0, start := 0, items := [], md := md }) (u := u) (r := []) (by rw [List.append_nil]; exact hd3) hidx
  have hd5 : s.drop 5 = u ++ ([42, 47] ++ rd md) := by
    have := drop_more (u := [47, 42]) (r := u ++ ([42, 47] ++ rd md)) (p := 3) hd3
    exact this
  have hd7 : s.drop (5 + u.length) = [42, 47] ++ rd md := drop_more hd5
  have hd9 : s.drop (5 + u.length + 2) = rd md := drop_more (u := [42, 47]) hd7
  have hsl : s.length = u.length + 10 := by
    rw [← hs]
    simp only [List.length_append, List.length_cons, hlen, rd3, List.length_nil]
    omega
  have t1 : txts s 0 3 = [mk 18 0 3] := by
    obtain ⟨d, hd⟩ := lf_two md
    have hc : cut s 0 3 = [123, 123] ++ [d] := by unfold cut; rw [hd0, hd]; rfl
    refine txts_solid hc ?_
    revert hd
    cases md <;> (intro hd; cases hd; rfl)
  have t2 : txts s 5 (5 + u.length) = [mk 18 5 (5 + u.length)] := by
    have hc := cut_at hd5
    have hsplit : u = u.dropLast ++ [d] := by
      have hne := hu
      rw [List.getLast?_eq_some_getLast hne] at hl1
      cases hl1
      exact (List.dropLast_concat_getLast hne).symm
    rw [hsplit] at hc
    rw [← hsplit] at hc
    exact txts_solid (u := u.dropLast) (c := d) (by rw [← hsplit]; exact hc) hl2
  have hc3 : cut s (7 + u.length) (10 + u.length) = rd md := by
    unfold cut
    rw [show 7 + u.length = 5 + u.length + 2 by omega, hd9, show 10 + u.length - (5 + u.length + 2) = (rd md).length by rw [rd3]; omega, List.take_length]
  have t3 : txts s (7 + u.length) (10 + u.length) = [mk 18 (7 + u.length) (10 + u.length)] := by
    obtain ⟨a, ha⟩ : ∃ a, rd md = [a, 125] ++ [125] := by cases md <;> exact ⟨_, rfl⟩
    rw [ha] at hc3
    exact txts_solid hc3 (by decide)
  have e3 := go_end (E := E) (s := s) (dv := dv) (x := { lx0 with md := md, pos := 3 + u.length + 7, start := 3 + u.length + 7, items := [] ++ txts s 0 3 ++ txts s 5 (5 + u.length) ++ txts s (7 + u.length) (10 + u.length) }) (Nat.le_refl _) (by dsimp only; omega) (.inl (by dsimp only; omega))
  have s3' : step E s dv .comment (mv 3 { lx0 with pos := 0, start := 0, items := [], md := md }) = ({ lx0 with md := md, pos := 3 + u.length + 7, start := 3 + u.length + 7, items := [] ++ txts s 0 3 ++ txts s 5 (5 + u.length) ++ txts s (7 + u.length) (10 + u.length) }, some .main) := by
    rw [s3]
    show (({ lx0 with md := md, pos := 3 + u.length + 7, start := 3 + u.length + 7, items := [] ++ txts s 0 3 ++ txts s (3 + 2) (3 + 2 + u.length) ++ txts s (3 + u.length + 4) (3 + u.length + 7) } : Lx), _) = _
    rw [show 3 + u.length + 4 = 7 + u.length by omega, show 3 + u.length + 7 = 10 + u.length by omega]
  have s1' : step E s dv .main lx0 = ({ lx0 with pos := 0, start := 0, items := [], md := md }, some .left) := by rw [s1]; rfl
  refine ⟨_, .go s1' (.go s2 (.go s3' e3)), ?_⟩
  rw [t1, t2, t3]
  dsimp only
  rw [show 3 + u.length + 7 = s.length by omega, opn_none]
  have m1 := told_mk hT (ty := 18) (s := s) (a := 0) (b := 3) (t := lf md) (by unfold cut; rw [hd0, show 3 - 0 = (lf md).length by rw [hlen], List.take_left]) (asc_lf md)
  have m2 := told_mk hT (ty := 18) (cut_at hd5) ha
  have m3 := told_mk hT (ty := 18) hc3 (asc_rd md)
  have m4 := told_mk hT (ty := 1) (s := s) (a := s.length) (b := s.length) (t := []) (by unfold cut; simp) (by intro c hc; cases hc)
  simp only [List.map_append, List.map_cons, List.map_nil, List.nil_append, List.append_nil, m1, m2, m3, m4]
  have q1 : (((b0.put 18 (lf md)).pass [47, 42])).s.length = 5 := by show (([] ++ lf md) ++ [47, 42] : T).length = 5; simp only [List.length_append, List.length_nil, List.length_cons, hlen]
  have q2 : (((((b0.put 18 (lf md)).pass [47, 42]).put 18 u).pass [42, 47])).s.length = 7 + u.length := by show ((([] ++ lf md) ++ [47, 42]) ++ u ++ [42, 47] : T).length = _; simp only [List.length_append, List.length_nil, List.length_cons, hlen]; omega
  have q3 : ((((((b0.put 18 (lf md)).pass [47, 42]).put 18 u).pass [42, 47]).put 18 (rd md))).s.length = s.length := by show ((([] ++ lf md) ++ [47, 42]) ++ u ++ [42, 47] ++ rd md : T).length = _; simp only [List.length_append, List.length_nil, List.length_cons, hlen, rd3]; omega
  show _ = (([] ++ [tiOf 18 0 (lf md)]) ++ [tiOf 18 (((b0.put 18 (lf md)).pass [47, 42])).s.length u]) ++ [tiOf 18 (((((b0.put 18 (lf md)).pass [47, 42]).put 18 u).pass [42, 47])).s.length (rd md)] ++ [tiOf 1 ((((((b0.put 18 (lf md)).pass [47, 42]).put 18 u).pass [42, 47]).put 18 (rd md))).s.length []]
  rw [q1, q2, q3]
  rfl
end
end Go.Proofs.YtkehggbmpdacpaaGreatDoor.Lex0
