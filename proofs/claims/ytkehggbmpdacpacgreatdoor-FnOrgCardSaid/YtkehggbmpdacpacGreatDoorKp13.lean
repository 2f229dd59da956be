/- The page laws: texts that all of them use, joined (part 13): Pg44, Pg45, Pg46, PgQ, Pg47, Pg48, Pg49, Pg50, Pg51. -/
import Derived.OrdersHeld
import Derived.Deep.Quiet
import Derived.Test.YtkehggbmpdacpacGreatDoorKp0
import Derived.Test.YtkehggbmpdacpacGreatDoorKp12
set_option maxRecDepth 100000
set_option linter.unusedVariables false
set_option linter.unusedSimpArgs false
set_option linter.unusedSectionVars false
namespace Go.Proofs.YtkehggbmpdacpacGreatDoor.Pg
open Go.Rx hiding bt
open Go.RowKit Go.Proofs.YtkehggbmpdacpacGreatDoor.Dec0 Go.Proofs.YtkehggbmpdacpacGreatDoor.Lex0
theorem si126' : (Tryz.prog.info? 97).map (·.size) = some 2 := by kernel_rfl
theorem row_slb {w : World} {r : Row} {l : T} {B : Nat} (hw : Has (r.mem (bytesL l) 5) w) (hr : r.ok B 1 (bytesL l).length (bytesL l)) : SlB w (r.val (bytesL l).length) l := by
  cases r with
  | nil =>
    obtain ⟨_, h⟩ := hr
    have : l = [] := by
      have h1 := congrArg List.length h
      rw [bytesL_len] at h1
      exact List.length_eq_zero_iff.1 h1
    subst this
    exact .inr ⟨rfl, rfl⟩
  | «at» g cap rr =>
    obtain ⟨_, h1, h2, _, _⟩ := hr
    have h2' : l.length ≤ cap := by rw [← bytesL_len l]; exact h2
    refine .inl (Byt.cells hw (List.mem_singleton.2 rfl) (.inr rfl) h2' (fun j x hx => ?_) (by rw [bytesL_len]; rfl))
    rw [Nat.zero_add, List.getElem?_append_left (by rw [bytesL_len]; exact (List.getElem?_eq_some_iff.1 hx).1)]
    exact bytesL_get hx
set_option maxHeartbeats 1000000 in
theorem val2_calls {w : World} {s : T} {b o c ty l0 h0 fb cap : Nat} {A : Addr} {er st : Value} {segs : List (Nat × Nat)} (h1 : er.oneCell' = true) (h2 : st.oneCell' = true) (hB : Byt w (.slice (some ⟨b, o, none⟩) s.length c) s) (hbw : b < w.heap.size) (hch : SegCh s.length 0 segs) (hbig : s.length ≤ 4294967296) (hn2 : 2 ≤ segs.length) (hn3 : segs.length ≤ 4294967296)
    (hA : ∀ (j : Nat) u, (segC segs)[j]? = some u → w.cell? (A.add j) = some u) :
    Calls Tryz.prog 79 #[.agg #[.int .i64 (ty : Nat), er, .int .i64 (l0 : Nat), .int .i64 (h0 : Nat), .slice (some A) segs.length cap, .int .u8 (fb : Nat), st], .slice (some ⟨b, o, none⟩) s.length c] w fun e w' => ∃ v', e = .returned v' ∧ SlB w' v' (segT s segs) ∧ Below w.heap.size w w' := by
  have hcap : s.length ≤ c := by obtain ⟨b', o', c', he, hc, _⟩ := hB; cases he; exact hc
  refine enter (fun _ => False) 50 [] Tryz.func79 rfl rfl rfl (vs := [.agg #[.int .i64 (ty : Nat), er, .int .i64 (l0 : Nat), .int .i64 (h0 : Nat), .slice (some A) segs.length cap, .int .u8 (fb : Nat), st], .slice (some ⟨b, o, none⟩) s.length c]) (Has.nil _) ?_
  conv => arg 2; arg 2; whnf
  repeat' (first | refine cseq ?_ | refine rtext ?_ | refine cfalse rfl ?_ | refine cskip ?_ | refine cblk ?_ | refine jnil ?_ | (first | refine jmv rfl rfl rfl ?_ | (show Jo _ (.fieldAddr _ _ _); refine jy (yfield rfl fb88_4' rfl) rfl rfl ?_) | (show Jo _ (.load _ _); first | refine jy (yload (i := 0) rfl rfl rfl one3) rfl rfl ?_ | refine jy (yload (i := 1) rfl rfl rfl one3) rfl rfl ?_) | refine jas_ rfl rfl rfl ?_ | (show Jo _ (.binOp _ _ _ _ _); refine jy (yeql rfl rfl (by (exact decide_eq_false (by omega)))) rfl rfl ?_) | (show Jo _ (.call _); ((show Jo _ (.call ⟨.builtin .len, _, _⟩); refine jy (ylenl rfl und86') rfl rfl ?_))) | (show Jo _ (.box _ _); refine jbox rfl rfl rfl (fun gb hT => ?_)) | (show Jo (some 5) (.alloc _); refine jalloc ze148 rfl (fun gB hgB => ?_))))
  obtain ⟨it, hit⟩ : ∃ it : Nat × List Value × Bk, it = (gb, [.int .i64 (ty : Nat), er, .int .i64 (l0 : Nat), .int .i64 (h0 : Nat), .slice (some A) segs.length cap, .int .u8 (fb : Nat), st], Bk.c 70) := ⟨_, rfl⟩
  have hNB : NoB [it] := fun x hx => by
    rw [List.mem_singleton.1 hx, hit]
    exact ⟨70, rfl, by decide⟩
  have hTl : (segT s segs).length ≤ s.length := by have := segT_len hch; omega
  rw [← hit]
  refine fin (f' := [(1, .slice (some ⟨b, o, none⟩) s.length c), (5, .pointer (some ⟨gB, 0, none⟩)), (35, .slice (some A) segs.length cap), (36, .int .i64 segs.length), (37, .int .i64 (0 : Nat))]) (m' := bufM gB .nil (bytesL (segT s (segs.take 0))) 0 [it])
    (cloop (ι := Nat × Row × Int) (fun i => [(1, .slice (some ⟨b, o, none⟩) s.length c), (5, .pointer (some ⟨gB, 0, none⟩)), (35, .slice (some A) segs.length cap), (36, .int .i64 segs.length), (37, .int .i64 (i.1 : Nat))]) (fun i => bufM gB i.2.1 (bytesL (segT s (segs.take i.1))) i.2.2 [it])
      (fun n i => n = segs.length - i.1 ∧ i.1 ≤ segs.length ∧ i.2.1.ok w.heap.size 1 (bytesL (segT s (segs.take i.1))).length (bytesL (segT s (segs.take i.1)))) segs.length (0, .nil, 0) ⟨rfl, Nat.zero_le _, rfl, rfl⟩ ?_) ⟨rfl, rfl, rfl, rfl, rfl, trivial⟩ rfl
  rintro n ⟨j, r, lr⟩ ⟨rfl, hj, hrok⟩ K hK
  dsimp only at hj hrok ⊢
  have hpre := segT_pre (s := s) (segs := segs) j
  by_cases hlt : j < segs.length
  · obtain ⟨p, hp⟩ : ∃ p, segs[j]? = some p := ⟨_, List.getElem?_eq_getElem hlt⟩
    obtain ⟨hp1, hp2⟩ := hch.mem p (List.mem_of_getElem? hp)
    obtain ⟨hc1, hc2⟩ := segC_at hp
    have hA2 : ∀ (i : Nat) v, ([.int .i64 p.1, .int .i64 p.2] : List Value)[i]? = some v → w.cell? ((A.add (2 * j)).add i) = some v := by
      intro i v hv
      rw [add_add]
      match i, hv with
      | 0, hv => cases hv; exact hA _ _ hc1
      | 1, hv => cases hv; exact hA _ _ hc2
      | i + 2, hv => cases hv
    obtain ⟨a, hab, ha⟩ := sl_some (b := b) (o := o) (c := c) (lo := p.1)
    have hsub := hB.sub p.1 (p.2 - p.1) (by omega)
    rw [ha] at hsub
    obtain ⟨hk1, hk2⟩ := byt_cells hsub
    have hcl : (bytesL (cut s p.1 p.2)).length = p.2 - p.1 := by rw [bytesL_len, cut_len hp2]
    have hwr := write_calls (X := ⟨50, [], fun _ => False, w⟩) (r := r) (lr := lr) (c := c - p.1) hNB hgB hrok (bytesL_one _) hcl (by rw [hab]; exact hbw) (fun h => h) (fun i v hv => hk2 i v hv) (bytesL_one _) (by rw [bytesL_len]; omega)
    have hk := hK (segs.length - (j + 1))
    rw [← bytesL_app, ← segT_take hp] at hwr
    repeat' (first | refine cseq ?_ | refine rtext ?_ | refine ctrue rfl ?_ | refine cskip ?_ | refine cblk ?_ | refine tnorm ?_ | refine jnil ?_ | (first | refine jmv rfl rfl rfl ?_ | (show Jo _ (.fieldAddr _ _ _); refine jy (yfield rfl (by first | exact fb88_0' | exact fb126_1') rfl) rfl rfl ?_) | (show Jo _ (.load _ _); first | refine jy (yload (i := 0) rfl rfl rfl one3) rfl rfl ?_ | refine jy (yloadsw (c := [.int .i64 p.1, .int .i64 p.2]) rfl hA2 (fun h => h) ag126') rfl rfl ?_) | (show Jo _ (.binOp _ _ _ _ _); first | (show Jo _ (.binOp .add _ _ _ _); refine jy (yadd (c := ((j + 1 : Nat) : Int)) rfl rfl (by rw [i64_in (by omega) (by omega)]; omega)) rfl rfl ?_) | refine jy (ylss rfl rfl (by (exact decide_eq_true (by omega)))) rfl rfl ?_) | (show Jo _ (.store _ _ _); refine jstores (i := 0) rfl rfl rfl rfl rfl si126' (.inr hT7) ?_) | (show Jo _ (.call _); ((show Jo (some 47) (.call _); refine jless (List.sublist_cons_self _ _) ?_; refine jcall (ι := Row × Int) (vs := [.pointer (some ⟨gB, 0, none⟩), .slice (some a) (p.2 - p.1) (c - p.1)]) _ bo124 rfl rfl rfl hwr (fun i1 hi1 => ?_)))) | (show Jo (some 7) (.alloc _); refine jalloc ze126' rfl (fun g7 hT7 => ?_)) | (show Jo _ (.slice 54 _ (some _) (some _) none); refine jy (yslLH (n := p.1) (n' := p.2) (kk := p.2 - p.1) rfl rfl rfl und59 sz5 rfl rfl hp1 (by omega) ha rfl rfl) rfl rfl ?_) | (show Jo _ (.indexAddr 68 _ _); refine jy (yat (p' := A.add (2 * j)) rfl rfl und86' sz126' (by omega) (by omega) (by congr 1; omega)) rfl rfl ?_)))
    exact fin (hk (j + 1, i1.1, i1.2) (by omega) ⟨rfl, hlt, hi1⟩) ⟨rfl, rfl, rfl, rfl, rfl, trivial⟩ rfl
  · obtain rfl : j = segs.length := by omega
    have hby := bufBytes_calls (X := ⟨50, [], fun _ => False, w⟩) (r := r) (lr := lr) hNB hgB hrok
    rw [List.take_length] at *
    repeat' (first | refine cseq ?_ | refine rtext ?_ | refine cfalse rfl ?_ | refine cret ?_ | refine cexit ?_ | refine jnil ?_ | (first | refine jas_ rfl rfl rfl ?_ | (show Jo _ (.binOp _ _ _ _ _); refine jy (ylss rfl rfl (by (exact decide_eq_false (by omega)))) rfl rfl ?_) | (show Jo _ (.call _); ((show Jo (some 49) (.call _); refine jcall (ι := Row) (vs := [.pointer (some ⟨gB, 0, none⟩)]) _ bo125 rfl rfl rfl hby (fun i1 hi1 => ?_))))))
    exact ret1 rfl rfl rfl (fun w' hw' => ⟨_, rfl, row_slb hw'.1 hi1, hw'.2.below (fun k _ h => h) (Nat.le_refl _)⟩)
def ItW (w : World) (s : T) (it : Itm) (cs : List Value) : Prop := ∃ er sg, cs = itC it.ty er it.low it.high sg (fbN s (ipos it)) it.str ∧ ((it.err = false ∧ er = .nilIface) ∨ (it.err = true ∧ ∃ v, er = .iface 144 v)) ∧ SegW w sg it.segs
structure InI (s : T) (it : Itm) : Prop where
  lo : it.segs = [] → it.low ≤ it.high ∧ it.high ≤ s.length
  ch : SegCh s.length 0 it.segs
  n : it.segs.length ≤ s.length
theorem SegW.below {w w' : World} {sg : Value} {segs : List (Nat × Nat)} (h : SegW w sg segs) (hb : Below w.heap.size w w') : SegW w' sg segs := by
  rcases h with h | ⟨A, cap, h1, h2, h3⟩
  · exact .inl h
  · exact .inr ⟨A, cap, h1, h2, fun j u hj => Go.Rx.cell_evo (S := fun _ => False) (Evo.of_below hb) (fun h => h) (h3 j u hj)⟩
theorem ItW.below {w w' : World} {s : T} {it : Itm} {cs : List Value} (h : ItW w s it cs) (hb : Below w.heap.size w w') : ItW w' s it cs := by
  obtain ⟨er, sg, h1, h2, h3⟩ := h
  exact ⟨er, sg, h1, h2, h3.below hb⟩
theorem SegW.one {w : World} {sg : Value} {segs : List (Nat × Nat)} (h : SegW w sg segs) : sg.oneCell' = true := by
  rcases h with ⟨_, rfl⟩ | ⟨A, cap, _, rfl, _⟩ <;> rfl
theorem ItW.ic {w : World} {s : T} {it : Itm} {cs : List Value} (h : ItW w s it cs) : IC it.ty cs := by
  obtain ⟨er, sg, rfl, h2, h3⟩ := h
  have he : er.oneCell' = true := by
    rcases h2 with ⟨_, rfl⟩ | ⟨_, v, rfl⟩ <;> rfl
  refine ⟨er, _, _, sg, _, _, rfl, fun v hv => ?_⟩
  simp only [List.mem_cons, List.not_mem_nil, or_false] at hv
  rcases hv with rfl | rfl | rfl | rfl | rfl | rfl
  · exact he
  · rfl
  · rfl
  · exact h3.one
  · rfl
  · rfl
theorem val_calls {w : World} {s : T} {b o c : Nat} {it : Itm} {cs : List Value} (hB : Byt w (.slice (some ⟨b, o, none⟩) s.length c) s) (hbw : b < w.heap.size) (hbig : s.length ≤ 4294967296) (hi : ItW w s it cs) (hin : InI s it) :
    Calls Tryz.prog 79 #[.agg cs.toArray, .slice (some ⟨b, o, none⟩) s.length c] w fun e w' => ∃ v', e = .returned v' ∧ SlB w' v' (valI s it) ∧ Below w.heap.size w w' := by
  obtain ⟨er, sg, rfl, h2, h3⟩ := hi
  have he : er.oneCell' = true := by
    rcases h2 with ⟨_, rfl⟩ | ⟨_, v, rfl⟩ <;> rfl
  have hst : (Value.bool it.str).oneCell' = true := rfl
  have hn := hin.n
  rcases h3 with ⟨hs, rfl⟩ | ⟨A, cap, hs, rfl, hA⟩
  · obtain ⟨hl1, hl2⟩ := hin.lo hs
    refine (val0_calls (lo := it.low) (hi := it.high) he hst hB hl1 hl2).mono fun e w' ⟨v', h4, h5, h6⟩ => ⟨v', h4, ?_, h6⟩
    unfold valI
    rw [if_pos hs]
    exact .inl h5
  · have hv : valI s it = segT s it.segs := by unfold valI; rw [if_neg hs]; rfl
    rw [hv]
    match hsg : it.segs, hs with
    | [p], _ =>
      have hch := hin.ch
      rw [hsg] at hch hA
      refine (val1_calls (lo := p.1) (hi := p.2) he hst hB hch.2.1 (SegCh.le hch.2.2) (hA 0 _ rfl) (hA 1 _ rfl)).mono fun e w' ⟨v', h4, h5, h6⟩ => ⟨v', h4, ?_, h6⟩
      unfold segT
      rw [List.flatMap_cons, List.flatMap_nil, List.append_nil]
      exact .inl h5
    | p :: q :: r, _ =>
      rw [← hsg]
      exact val2_calls he hst hB hbw hin.ch hbig (by rw [hsg]; simp) (by omega) hA
theorem bo71 : bodyB Tryz.prog 48 = true := by kernel_rfl
theorem bo74 : bodyB Tryz.prog 51 = true := by kernel_rfl
theorem bo108' : bodyB Tryz.prog 80 = true := by kernel_rfl
theorem und9' : Tryz.prog.underlying 9 = some .string := by kernel_rfl
theorem und5' : Tryz.prog.underlying 5 = some (.int .u8) := by kernel_rfl
theorem ystrS {X : Cx} {P : Program} {f : Fr} {m : Mem} {d : Option Tmp} {ty : TypeId} {pos : String} {af : Array Edge} {gd : Option (Nat × Bool)} {x : Operand} {t t' e : Nat} {l : T} {v : Value} {r : ByteArray} (hx : evF f x = some v) (hv : ∀ w, Cl X m w → SlB w v l) (hs : P.underlying t = some (.slice e)) (he : P.underlying e = some (.int .u8)) (ht : P.underlying t' = some .string) (hr : ba l = r) :
    Yl X P f m ⟨d, .convert t t' x, ty, pos, af, gd⟩ (.string r) := .of fun a w st => by
  rcases hv w ⟨st.has, st.evo⟩ with h | ⟨hl, h⟩
  · subst hr
    obtain ⟨b, o, c, rfl, _, hc⟩ := h
    have := run_convert_bytes_back (P := P) w t t' e ⟨b, o, none⟩ c l hs he ht (fun j hj => by
      have h1 := hc j l[j] (List.getElem?_eq_getElem hj)
      have h2 : (⟨b, o, none⟩ : Addr).add j = ⟨b, o + j, none⟩ := by unfold Addr.add; split <;> simp_all
      rw [h2]
      exact h1)
    simp [execOp, st.agr.eval hx, this]
    rfl
  · subst hr
    subst hl
    subst h
    have := run_convert_bytes_nil (P := P) (w := w) t e hs he 0 0 t' ht
    simp [execOp, st.agr.eval hx, this]
    rfl
theorem SlB.slice {w : World} {v : Value} {l : T} (h : SlB w v l) : ∃ A c, v = .slice A l.length c := by
  rcases h with ⟨b, o, c, rfl, _⟩ | ⟨rfl, rfl⟩
  · exact ⟨_, _, rfl⟩
  · exact ⟨_, _, rfl⟩
theorem valStr_calls {w : World} {s : T} {b o c : Nat} {it : Itm} {cs : List Value} (hB : Byt w (.slice (some ⟨b, o, none⟩) s.length c) s) (hbw : b < w.heap.size) (hbig : s.length ≤ 4294967296) (hi : ItW w s it cs) (hin : InI s it) :
    Calls Tryz.prog 48 #[.agg cs.toArray, .slice (some ⟨b, o, none⟩) s.length c] w fun e w' => e = .returned (.string (ba (valI s it))) ∧ Below w.heap.size w w' := by
  have hi0 := hi
  obtain ⟨er, sg, hcs, h2, h3⟩ := hi0
  subst hcs
  have he : er.oneCell' = true := by
    rcases h2 with ⟨_, rfl⟩ | ⟨_, v, rfl⟩ <;> rfl
  have hsg := h3.one
  refine enter (fun _ => False) 9 [] Tryz.func48 rfl rfl rfl (vs := [.agg #[.int .i64 it.ty, er, .int .i64 it.low, .int .i64 it.high, sg, .int .u8 (fbN s (ipos it)), .bool it.str], .slice (some ⟨b, o, none⟩) s.length c]) (Has.nil _) ?_
  conv => arg 2; arg 2; whnf
  repeat' (first | refine cseq ?_ | refine rtext ?_ | refine cret ?_ | refine jnil ?_ | (first | refine jmv rfl rfl rfl ?_ | (show Jo _ (.load _ _); refine jy (yloads (i := 0) rfl rfl ag88) rfl rfl ?_) | refine jas_ rfl rfl rfl ?_ | (show Jo _ (.call _); ((show Jo _ (.call ⟨.value (.func 79), _, _⟩); refine jcallR (vs := [.agg #[.int .i64 it.ty, er, .int .i64 it.low, .int .i64 it.high, sg, .int .u8 (fbN s (ipos it)), .bool it.str], .slice (some ⟨b, o, none⟩) s.length c]) (m' := []) (fun _ => False) (fun v w' => SlB w' v (valI s it)) bo107 rfl rfl rfl (fun w' hw' => (val_calls (hB.below (hw'.2.below (fun k _ h => h) (Nat.le_refl _)) (Nat.le_refl _)) (Nat.lt_of_lt_of_le hbw hw'.2.size) hbig (hi.below (hw'.2.below (fun k _ h => h) (Nat.le_refl _))) hin).mono fun e w'' ⟨v', h1, h2, h3⟩ => ⟨v', h1, (hw'.below h3).less (List.nil_sublist _), h2⟩) (fun v1 w1 hv1 _ he1 => ?_)))) | (show Jo _ (.box _ _); refine jbox rfl rfl rfl (fun gb hT => ?_)) | (show Jo _ (.convert _ _ _); refine jy (ystrS rfl (fun w' hw' => hv1.below (hw'.2.below (fun k _ h => h) (Nat.le_refl _))) und59 und5' und9' rfl) rfl rfl ?_)))
  exact ret1 rfl rfl rfl (fun w' hw' => ⟨rfl, (he1.below (fun k _ h => h) (Nat.le_refl _)).trans (hw'.2.below (fun k _ h => h) he1.size)⟩)
theorem trimN_calls {w : World} : Calls Tryz.prog 80 #[.slice none 0 0] w fun e w' => e = .returned (.slice none 0 0) ∧ Below w.heap.size w w' := by
  refine enter (fun _ => False) 54 [] Tryz.func80 rfl rfl rfl (vs := [.slice none 0 0]) (Has.nil _) ?_
  conv => arg 2; arg 2; whnf
  repeat' (first | refine cseq ?_ | refine rtext ?_ | refine cblk ?_ | refine jnil ?_ | (first | refine jmv rfl rfl rfl ?_ | refine jas_ rfl rfl rfl ?_ | (show Jo _ (.call _); ((show Jo _ (.call ⟨.builtin .len, _, _⟩); refine jy (ylenl rfl und59) rfl rfl ?_)))))
  refine fin (f' := [(7, .slice none 0 0), (8, .int .i64 (0 : Nat)), (9, .int .i64 (0 : Nat))]) (m' := []) (cloop (ι := Unit) (fun _ => [(7, .slice none 0 0), (8, .int .i64 (0 : Nat)), (9, .int .i64 (0 : Nat))]) (fun _ => []) (fun n _ => n = 0) 0 () rfl ?_) ⟨rfl, rfl, rfl, trivial⟩ rfl
  rintro n _ rfl K hK
  repeat' (first | refine cseq ?_ | refine rtext ?_ | refine cfalse rfl ?_ | refine cret ?_ | refine cexit ?_ | refine jnil ?_ | (first | refine jas_ rfl rfl rfl ?_ | (show Jo _ (.binOp _ _ _ _ _); refine jy (ylss rfl rfl (by (exact decide_eq_false (by omega)))) rfl rfl ?_)))
  exact ret1 rfl rfl rfl (fun w' hw' => ⟨rfl, hw'.2.below (fun k _ h => h) (Nat.le_refl _)⟩)
theorem trimS_calls {w : World} {v : Value} {l : T} (hT : Tab w) (hv : SlB w v l) (hl : l.length ≤ 4611686018427387904) : Calls Tryz.prog 80 #[v] w fun e w' => ∃ v', e = .returned v' ∧ SlB w' v' (trS l) ∧ Below w.heap.size w w' := by
  rcases hv with hB | ⟨rfl, rfl⟩
  · have hB0 := hB
    obtain ⟨b, o, c, rfl, _, _⟩ := hB0
    exact (trimSpace_calls hT hB hl).mono fun e w' ⟨v', h1, h2, h3⟩ => ⟨v', h1, h2 w' (hB.below h3 (Nat.le_refl _)), h3⟩
  · exact trimN_calls.mono fun e w' ⟨h1, h2⟩ => ⟨_, h1, .inr ⟨rfl, rfl⟩, h2⟩
theorem valI_len {s : T} {it : Itm} (hin : InI s it) : (valI s it).length ≤ s.length := by
  unfold valI
  split
  · rename_i h
    have := hin.lo h
    rw [cut_len this.2]
    omega
  · have := segT_len hin.ch
    unfold segT at this
    omega
theorem nonws_calls {w : World} {s : T} {b o c : Nat} {it : Itm} {cs : List Value} (hT0 : Tab w) (hB : Byt w (.slice (some ⟨b, o, none⟩) s.length c) s) (hbw : b < w.heap.size) (hbig : s.length ≤ 4294967296) (hi : ItW w s it cs) (hin : InI s it) :
    Calls Tryz.prog 51 #[.agg cs.toArray, .slice (some ⟨b, o, none⟩) s.length c] w fun e w' => e = .returned (.bool (!(trS (valI s it)).isEmpty)) ∧ Below w.heap.size w w' := by
  have hi0 := hi
  obtain ⟨er, sg, hcs, h2, h3⟩ := hi0
  subst hcs
  have he : er.oneCell' = true := by
    rcases h2 with ⟨_, rfl⟩ | ⟨_, v, rfl⟩ <;> rfl
  have hsg := h3.one
  have hvl : (valI s it).length ≤ 4611686018427387904 := Nat.le_trans (valI_len hin) (by omega)
  refine enter (fun _ => False) 11 [] Tryz.func51 rfl rfl rfl (vs := [.agg #[.int .i64 it.ty, er, .int .i64 it.low, .int .i64 it.high, sg, .int .u8 (fbN s (ipos it)), .bool it.str], .slice (some ⟨b, o, none⟩) s.length c]) (Has.nil _) ?_
  conv => arg 2; arg 2; whnf
  rcases Nat.eq_zero_or_pos (trS (valI s it)).length with h0 | h0
  · have he : (trS (valI s it)).isEmpty = true := by rw [List.length_eq_zero_iff.1 h0]; rfl
    rw [he]
    repeat' (first | refine cseq ?_ | refine rtext ?_ | refine cret ?_ | refine jnil ?_ | (first | refine jmv rfl rfl rfl ?_ | (show Jo _ (.load _ _); refine jy (yloads (i := 0) rfl rfl ag88) rfl rfl ?_) | refine jas_ rfl rfl rfl ?_ | (show Jo _ (.binOp _ _ _ _ _); ((show Jo _ (.binOp .gtr _ _ _ _); refine jy (ygtr rfl rfl (by (exact decide_eq_false (by omega)))) rfl rfl ?_))) | (show Jo _ (.call _); first | (show Jo _ (.call ⟨.value (.func 80), _, _⟩); refine jcallR (vs := [v1]) (m' := []) (fun _ => False) (fun v w' => SlB w' v (trS (valI s it))) bo108' rfl rfl rfl (fun w' hw' => (trimS_calls ((hT0.below (he1.below (fun k _ h => h) (Nat.le_refl _))).below (hw'.2.below (fun k _ h => h) (Nat.le_refl _))) (hv1.below (hw'.2.below (fun k _ h => h) (Nat.le_refl _))) hvl).mono fun e w'' ⟨v', h1, h2, h3⟩ => ⟨v', h1, (hw'.below h3).less (List.nil_sublist _), h2⟩) (fun v2 w2 hv2 _ he2 => ?_); obtain ⟨A2, c2, rfl⟩ := hv2.slice) | (show Jo _ (.call ⟨.value (.func 79), _, _⟩); refine jcallR (vs := [.agg #[.int .i64 it.ty, er, .int .i64 it.low, .int .i64 it.high, sg, .int .u8 (fbN s (ipos it)), .bool it.str], .slice (some ⟨b, o, none⟩) s.length c]) (m' := []) (fun _ => False) (fun v w' => SlB w' v (valI s it)) bo107 rfl rfl rfl (fun w' hw' => (val_calls (hB.below (hw'.2.below (fun k _ h => h) (Nat.le_refl _)) (Nat.le_refl _)) (Nat.lt_of_lt_of_le hbw hw'.2.size) hbig (hi.below (hw'.2.below (fun k _ h => h) (Nat.le_refl _))) hin).mono fun e w'' ⟨v', h1, h2, h3⟩ => ⟨v', h1, (hw'.below h3).less (List.nil_sublist _), h2⟩) (fun v1 w1 hv1 _ he1 => ?_)) | (show Jo _ (.call ⟨.builtin .len, _, _⟩); refine jy (ylenl rfl und59) rfl rfl ?_)) | (show Jo _ (.box _ _); refine jbox rfl rfl rfl (fun gb hT => ?_))))
    exact ret1 rfl rfl rfl (fun w' hw' => ⟨rfl, ((he1.below (fun k _ h => h) (Nat.le_refl _)).trans (he2.below (fun k _ h => h) he1.size)).trans (hw'.2.below (fun k _ h => h) (Nat.le_trans he1.size he2.size))⟩)
  · have he : (trS (valI s it)).isEmpty = false := by
      cases hr : trS (valI s it) with
      | nil => rw [hr] at h0; cases h0
      | cons c r => rfl
    rw [he]
    repeat' (first | refine cseq ?_ | refine rtext ?_ | refine cret ?_ | refine jnil ?_ | (first | refine jmv rfl rfl rfl ?_ | (show Jo _ (.load _ _); refine jy (yloads (i := 0) rfl rfl ag88) rfl rfl ?_) | refine jas_ rfl rfl rfl ?_ | (show Jo _ (.binOp _ _ _ _ _); ((show Jo _ (.binOp .gtr _ _ _ _); refine jy (ygtr rfl rfl (by (exact decide_eq_true (by omega)))) rfl rfl ?_))) | (show Jo _ (.call _); first | (show Jo _ (.call ⟨.value (.func 80), _, _⟩); refine jcallR (vs := [v1]) (m' := []) (fun _ => False) (fun v w' => SlB w' v (trS (valI s it))) bo108' rfl rfl rfl (fun w' hw' => (trimS_calls ((hT0.below (he1.below (fun k _ h => h) (Nat.le_refl _))).below (hw'.2.below (fun k _ h => h) (Nat.le_refl _))) (hv1.below (hw'.2.below (fun k _ h => h) (Nat.le_refl _))) hvl).mono fun e w'' ⟨v', h1, h2, h3⟩ => ⟨v', h1, (hw'.below h3).less (List.nil_sublist _), h2⟩) (fun v2 w2 hv2 _ he2 => ?_); obtain ⟨A2, c2, rfl⟩ := hv2.slice) | (show Jo _ (.call ⟨.value (.func 79), _, _⟩); refine jcallR (vs := [.agg #[.int .i64 it.ty, er, .int .i64 it.low, .int .i64 it.high, sg, .int .u8 (fbN s (ipos it)), .bool it.str], .slice (some ⟨b, o, none⟩) s.length c]) (m' := []) (fun _ => False) (fun v w' => SlB w' v (valI s it)) bo107 rfl rfl rfl (fun w' hw' => (val_calls (hB.below (hw'.2.below (fun k _ h => h) (Nat.le_refl _)) (Nat.le_refl _)) (Nat.lt_of_lt_of_le hbw hw'.2.size) hbig (hi.below (hw'.2.below (fun k _ h => h) (Nat.le_refl _))) hin).mono fun e w'' ⟨v', h1, h2, h3⟩ => ⟨v', h1, (hw'.below h3).less (List.nil_sublist _), h2⟩) (fun v1 w1 hv1 _ he1 => ?_)) | (show Jo _ (.call ⟨.builtin .len, _, _⟩); refine jy (ylenl rfl und59) rfl rfl ?_)) | (show Jo _ (.box _ _); refine jbox rfl rfl rfl (fun gb hT => ?_))))
    exact ret1 rfl rfl rfl (fun w' hw' => ⟨rfl, ((he1.below (fun k _ h => h) (Nat.le_refl _)).trans (he2.below (fun k _ h => h) he1.size)).trans (hw'.2.below (fun k _ h => h) (Nat.le_trans he1.size he2.size))⟩)
end Go.Proofs.YtkehggbmpdacpacGreatDoor.Pg
namespace Go.Rx
open Go.RowKit
section
variable {P : Program} {ops : Array Oper} {Q : Exit → Act → World → Prop} {md : Region.Mode} {X : Cx} {mS : Mem}
def YldC (P : Program) (ops : Array Oper) (X : Cx) (mS : Mem) (o : Oper) (v : Value) (a : Act) : Prop :=
  (Region.wanted o (yielded ops a.tmps) = true ∧ ∀ E w, Cl X (mS ++ E) w → o.quietAt P a (Cl X (mS ++ E)) w v) ∨ (Region.wanted o (yielded ops a.tmps) = false ∧ v = undef)
theorem YldC.of_same {o : Oper} {v : Value} {a a' : Act} (hy : YldC P ops X mS o v a) (he : execOp a'.eval o = execOp a.eval o) (hw : Region.wanted o (yielded ops a'.tmps) = Region.wanted o (yielded ops a.tmps)) : YldC P ops X mS o v a' := by
  unfold YldC Oper.quietAt at *
  rw [he, hw]
  exact hy
theorem YldC.wpOp {i : Nat} {o : Oper} {v : Value} {a : Act} (hi : ops[i]? = some o) (hy : YldC P ops X mS o v a) {K : Act → World → Prop} {E : Mem} {w : World} (hC : Cl X (mS ++ E) w) (h : ∀ w', Cl X (mS ++ E) w' → K (a.put o.dst v) w') : wpOp P ops Q i K a w := by
  unfold Go.wpOp
  simp only [hi]
  rcases hy with ⟨hw, hv⟩ | ⟨hw, rfl⟩
  · simp only [hw, if_true]
    refine .inl ?_
    have h3 := hv E w hC
    unfold Oper.quietAt at h3
    unfold Oper.wp
    generalize (execOp a.eval o).run P w = r at *
    cases r with
    | ok n w' =>
      cases n <;> simp only [Oper.quietUpon] at h3 <;> simp only [Oper.upon]
      case value u =>
        obtain ⟨e1, e2⟩ := h3
        rw [e1, e2]
        exact h _ hC
      case skip =>
        obtain ⟨e1, e2⟩ := h3
        rw [e1, ← e2]
        exact h _ hC
      case enter f args =>
        obtain ⟨e1, hc⟩ := h3
        rw [e1]
        exact hc.mono fun e w'' ⟨he, hw''⟩ => by subst he; exact h _ hw''
    | halt x w' => simp only [Oper.quietUpon] at h3
  · simp only [hw, Bool.false_eq_true, if_false]
    exact h _ hC
theorem wpOp_putC {j : Nat} {oi oj : Oper} {v : Value} (hj : ops[j]? = some oj) (hap : oi.apart ops oj = true) (hsi : ∀ cs b, oi.op ≠ .select cs b) (hsj : ∀ cs b, oj.op ≠ .select cs b)
    (hQ : ∀ c a w, Q (.panic c) (a.put oi.dst v) w → Q (.panic c) a w) {K : Act → World → Prop} {a : Act} {w : World} (hy : YldC P ops X mS oi v a) (h : wpOp P ops Q j K (a.put oi.dst v) w) :
    wpOp P ops Q j (fun a' w' => YldC P ops X mS oi v a' ∧ K (a'.put oi.dst v) w') a w := by
  obtain ⟨h1, h2, h3⟩ := Oper.apart_spec hap
  have keep : ∀ (a : Act), YldC P ops X mS oi v a → ∀ u, YldC P ops X mS oi v (a.put oj.dst u) := fun a hy u => hy.of_same (execOp_put oi hsi a oj.dst u h3) (wanted_put oi a oj.dst u h3)
  have keepD : ∀ d, YldC P ops X mS oi v { a with defers := d :: a.defers } := fun d => hy.of_same rfl rfl
  unfold wpOp at *
  simp only [hj] at *
  rw [wanted_put oj a oi.dst v h1] at h
  split
  · rename_i hw
    simp only [hw, if_true] at h
    rcases h with h | ⟨hasks, hlets⟩
    case inr => exact .inr ⟨by unfold Oper.asks at *; rw [execOp_put oj hsj a oi.dst v h1] at hasks; exact hasks, hlets⟩
    refine .inl ?_
    unfold Oper.wp at *
    rw [execOp_put oj hsj a oi.dst v h1] at h
    generalize (execOp a.eval oj).run P w = r at *
    cases r with
    | ok n w' =>
      cases n <;> simp only [Oper.upon] at h ⊢
      case value u => exact ⟨keep a hy u, by rw [← Act.put_comm a v u h2]; exact h⟩
      case skip => exact ⟨keep a hy _, by rw [← Act.put_comm a v undef h2]; exact h⟩
      case defer d =>
        refine ⟨keep _ (keepD d) _, ?_⟩
        rw [← Act.put_comm _ v undef h2, ← Act.put_defers]
        exact h
      case enter f args =>
        refine Calls.mono h fun e w'' he => ?_
        cases e with
        | returned u => exact ⟨keep a hy u, by rw [← Act.put_comm a v u h2]; exact he⟩
        | panicked c => exact hQ _ _ _ he
        | outgrown => exact he
      case row row args => exact Rows.mono h fun u w'' he => ⟨keep a hy u, by rw [← Act.put_comm a v u h2]; exact he⟩
    | halt x w' =>
      cases x <;> simp only [Oper.upon] at h ⊢
      case panic u => exact hQ _ _ _ h
  · rename_i hw
    simp only [hw] at h
    exact ⟨keep a hy _, by rw [← Act.put_comm a v undef h2]; exact h⟩
def anyM (P : Program) (md : Region.Mode) (ops : Array Oper) (Q : Exit → Act → World → Prop) (X : Cx) (mS : Mem) : Nat → Array Bool → Act → Mem → Prop
  | 0, listed, a, E => Region.ready md ops listed = [] ∧ ∀ w, Cl X (mS ++ E) w → Q .normal a w
  | fuel + 1, listed, a, E => (Region.ready md ops listed = [] → ∀ w, Cl X (mS ++ E) w → Q .normal a w) ∧
    ∀ i ∈ Region.ready md ops listed, ∀ w, Cl X (mS ++ E) w → wpOp P ops Q i (fun a' w' => ∃ E', Cl X (mS ++ E') w' ∧ anyM P md ops Q X mS fuel (listed.setIfInBounds i true) a' E') a w
theorem wpAny_of_M : ∀ (fuel : Nat) (listed : Array Bool) (a : Act) (E : Mem) (w : World), Cl X (mS ++ E) w → anyM P md ops Q X mS fuel listed a E → wpAny P md ops Q fuel listed a w
  | 0, _, _, _, _, hC, h => ⟨h.1, h.2 _ hC⟩
  | fuel + 1, _, _, _, _, hC, h => ⟨fun h0 => h.1 h0 _ hC, fun i hi => wpOp_mono (fun a' w' ⟨E', hC', h'⟩ => wpAny_of_M fuel _ a' E' w' hC' h') (h.2 i hi _ hC)⟩
theorem anyM_first {i : Nat} {oi : Oper} {v : Value} (hi : ops[i]? = some oi) (hsel : ∀ (j : Nat) (o : Oper) cs b, ops[j]? = some o → o.op ≠ .select cs b) (hQ : ∀ c a w, Q (.panic c) (a.put oi.dst v) w → Q (.panic c) a w) :
    ∀ (fuel : Nat) (listed : Array Bool) (a : Act) (E : Mem),
      (∀ j oj, ops[j]? = some oj → j ≠ i → listed.getD j true = false → (∀ e ∈ oj.after, Region.binds md e = true → e.on ≠ i) → oi.apart ops oj = true) →
      i ∈ Region.ready md ops listed → YldC P ops X mS oi v a →
      anyM P md ops Q X mS fuel (listed.setIfInBounds i true) (a.put oi.dst v) E → anyM P md ops Q X mS (fuel + 1) listed a E := by
  intro fuel
  induction fuel with
  | zero =>
    intro listed a E hfree hr hy H
    refine ⟨fun h => (by rw [h] at hr; cases hr), fun j hj w hC => ?_⟩
    by_cases hji : j = i
    · subst hji; exact hy.wpOp hi hC (fun w' hC' => ⟨E, hC', H⟩)
    · have := ready_mono hj hji
      rw [H.1] at this
      cases this
  | succ fuel ih =>
    intro listed a E hfree hr hy H
    refine ⟨fun h => (by rw [h] at hr; cases hr), fun j hj w hC => ?_⟩
    by_cases hji : j = i
    · subst hji; exact hy.wpOp hi hC (fun w' hC' => ⟨E, hC', H⟩)
    · have h1 := H.2 j (ready_mono hj hji) w hC
      obtain ⟨hjun, oj, hoj, hall⟩ := mem_ready.1 hj
      have hnot : ∀ e ∈ oj.after, Region.binds md e = true → e.on ≠ i := fun e he hb heq => by
        have h1 := hall e he hb
        have h0 := (mem_ready.1 hr).1
        rw [heq] at h1
        rcases Nat.lt_or_ge i listed.size with h' | h'
        · simp [h'] at h0 h1; rw [h0] at h1; cases h1
        · simp [Array.getElem?_eq_none h'] at h1
      have h2 := wpOp_putC hoj (hfree j oj hoj hji hjun hnot) (fun cs b => hsel i oi cs b hi) (fun cs b => hsel j oj cs b hoj) hQ hy h1
      have hfree' : ∀ k ok, ops[k]? = some ok → k ≠ i → (listed.setIfInBounds j true).getD k true = false →
          (∀ e ∈ ok.after, Region.binds md e = true → e.on ≠ i) → oi.apart ops ok = true := fun k ok hk hki hun hno => by
        refine hfree k ok hk hki ?_ hno
        by_cases hjk : j = k
        · subst hjk; exact hjun
        · rw [getD_set_ne true hjk] at hun; exact hun
      refine wpOp_mono (fun a' w' ⟨h3, E', hC', h4⟩ => ⟨E', hC', ih (listed.setIfInBounds j true) a' E' hfree' (ready_mono hr (Ne.symm hji)) h3 ?_⟩) h2
      rw [Array.setIfInBounds_comm _ _ hji]
      exact h4
end
section
variable {qt : Bool} {X : Cx} {P : Program} {Q : Exit → Act → World → Prop} {l rest : List Oper} {ops : Array Oper} {f : Fr} {mS E : Mem} {o : Oper}
structure PM (P : Program) (l : List Oper) (Q : Exit → Act → World → Prop) (X : Cx) (mS : Mem) (g : Nat) (D : List Nat) (f : Fr) (E : Mem) : Prop where
  of :: out : ∀ a, Agr X.n X.D f a → anyM P .any l.toArray Q X mS g (lst l.length D) a E
structure MK (P : Program) (l : List Oper) (Q : Exit → Act → World → Prop) (X : Cx) (mS : Mem) (g : Nat) (D : List Nat) (a : Act) (w : World) : Prop where
  of :: out : ∃ E', Cl X (mS ++ E') w ∧ anyM P .any l.toArray Q X mS g (lst l.length D) a E'
def stq (P : Program) (ops : Array Oper) (X : Cx) (mS : Mem) (K : Act → Prop) : List Oper → Act → Prop
  | [], a => K a
  | o :: r, a => ∃ v, YldC P ops X mS o v a ∧ stq P ops X mS K r (a.put o.dst v)
structure JC (X : Cx) (P : Program) (ops : Array Oper) (mS : Mem) (K : Fr → Prop) (l : List Oper) (f : Fr) : Prop where
  of :: out : ∃ f', K f' ∧ ∀ a, Agr X.n X.D f a → stq P ops X mS (fun a' => Agr X.n X.D f' a') l a
theorem jcnil {K : Fr → Prop} (h : K f) : JC X P ops mS K [] f := ⟨f, h, fun a ha => ha⟩
theorem jcy {K : Fr → Prop} {d : Nat} {op : Op} {ty : TypeId} {pos : String} {af : Array Edge} {gd : Option (Nat × Bool)} {v : Value} (hy : ∀ E, Yl X P f (mS ++ E) ⟨some d, op, ty, pos, af, gd⟩ v) (hw : wantedF ops f ⟨some d, op, ty, pos, af, gd⟩ = some true) (hd : Nat.blt d X.n = true)
    (h : JC X P ops mS K rest ((d, v) :: f)) : JC X P ops mS K (⟨some d, op, ty, pos, af, gd⟩ :: rest) f := by
  obtain ⟨f', hK, h⟩ := h.out
  refine ⟨f', hK, fun a ha => ⟨v, .inl ⟨wanted_of hw ha, fun E w hC => ?_⟩, h _ (ha.put (d := some d) (dst_of (o := ⟨some d, op, ty, pos, af, gd⟩) hd) _)⟩⟩
  unfold Oper.quietAt
  rw [(hy E).out a w ⟨ha, hC.1, hC.2⟩]
  exact ⟨rfl, rfl⟩
theorem jcc {K : Fr → Prop} {k : Nat} {as_ : List Operand} {tys : Array TypeId} {d : Nat} {ty : TypeId} {pos : String} {af : Array Edge} {gd : Option (Nat × Bool)} {vs : List Value} {v : Value}
    (hb : bodyB P k = true) (hw : wantedF ops f ⟨some d, .call ⟨.value (.func k), as_.toArray, tys⟩, ty, pos, af, gd⟩ = some true) (hd : Nat.blt d X.n = true) (hv : callF f as_ = some vs)
    (hc : ∀ E w, Cl X (mS ++ E) w → Calls P k vs.toArray w fun e w' => e = .returned v ∧ Below w.heap.size w w')
    (h : JC X P ops mS K rest ((d, v) :: f)) : JC X P ops mS K (⟨some d, .call ⟨.value (.func k), as_.toArray, tys⟩, ty, pos, af, gd⟩ :: rest) f := by
  obtain ⟨f', hK, h⟩ := h.out
  refine ⟨f', hK, fun a ha => ⟨v, .inl ⟨wanted_of hw ha, fun E w hC => ?_⟩, h _ (ha.put (d := some d) (dst_of (o := ⟨some d, .call ⟨.value (.func k), as_.toArray, tys⟩, ty, pos, af, gd⟩) hd) _)⟩⟩
  unfold Oper.quietAt
  rw [run_call hb ha hv]
  exact ⟨rfl, (hc E w hC).mono fun e w' ⟨h1, h2⟩ => ⟨h1, hC.below h2⟩⟩
theorem any_of_stq {g : Nat} {K : Act → Prop} (hsel : Region.noSelect l.toArray = true) (hQ : ∀ c d v a w, Q (.panic c) (Act.put a d v) w → Q (.panic c) a w) :
    ∀ (ks D : List Nat) (os : List Oper) (a : Act), pickO l ks = some os → pickB l.toArray ks (lst l.length D) = true → stq P l.toArray X mS K os a →
      (∀ a, K a → anyM P .any l.toArray Q X mS g (lst l.length (D ++ ks)) a E) → anyM P .any l.toArray Q X mS (g + ks.length) (lst l.length D) a E := by
  intro ks
  induction ks with
  | nil =>
    intro D os a ho _ h hK
    cases ho
    have := hK a h
    simpa using this
  | cons i ks ih =>
    intro D os a ho hB h hK
    simp only [pickO] at ho
    split at ho
    · rename_i r hr
      split at ho
      · rename_i o hn
        cases ho
        simp only [pickB, Bool.and_eq_true] at hB
        obtain ⟨v, hy, hrest⟩ := h
        have e1 : (lst l.length D).setIfInBounds i true = lst l.length (D ++ [i]) := by unfold lst; rw [List.foldl_append]; rfl
        have hi : l.toArray[i]? = some o := by rw [List.getElem?_toArray, ← nthO_eq]; exact hn
        refine anyM_first hi (Region.noSelect_spec hsel) (fun c a w h => hQ c _ _ a w h) (g + ks.length) _ _ _ (Region.free_spec hi hB.1.2) (by simpa using hB.1.1) hy ?_
        rw [e1]
        refine ih (D ++ [i]) r _ hr (by rw [← e1]; exact hB.2) hrest (fun a hk => ?_)
        have := hK a hk
        rwa [List.append_assoc]
      · cases ho
    · cases ho
theorem mq {g g' : Nat} {D D' : List Nat} {os : List Oper} (ks : List Nat) (hD : appO D ks = some D') (hsel : Region.noSelect l.toArray = true) (hB : pickB l.toArray ks (lst l.length D) = true) (hg : Nat.beq (g' + ks.length) g = true)
    (hQ : ∀ c d v a w, Q (.panic c) (Act.put a d v) w → Q (.panic c) a w) (ho : pickO l ks = some os) (h : JC X P l.toArray mS (fun f' => PM P l Q X mS g' D' f' E) os f) : PM P l Q X mS g D f E := by
  obtain rfl := Nat.eq_of_beq_eq_true hg
  obtain rfl := appO_of hD
  obtain ⟨f', hK, h⟩ := h.out
  exact ⟨fun a ha => any_of_stq hsel hQ ks D os a ho hB (h a ha) (fun a' ha' => hK.out a' ha')⟩
theorem mop {g : Nat} {D D' : List Nat} {i : Nat} (hD : appO D [i] = some D') (ho : nthO l i = some o) (h : J false X P l.toArray Q (MK P l Q X mS g D') [o] f (mS ++ E)) : ∀ a, Agr X.n X.D f a → ∀ w, Cl X (mS ++ E) w →
    wpOp P l.toArray Q i (fun a' w' => ∃ E', Cl X (mS ++ E') w' ∧ anyM P .any l.toArray Q X mS g ((lst l.length D).setIfInBounds i true) a' E') a w := fun a ha w hC => by
  obtain rfl := appO_of hD
  refine wpOp_mono (fun a' w' h3 => ?_) (jop ho h a w ⟨ha, hC.1, hC.2⟩)
  obtain ⟨E', h4, h5⟩ := h3.out
  refine ⟨E', h4, ?_⟩
  unfold lst at h5 ⊢
  rwa [List.foldl_append] at h5
theorem me1 {g g' : Nat} {D D' : List Nat} (i : Nat) (hD : appO D [i] = some D') (hg : Nat.beq (g' + 1) g = true) (hr : Region.ready .any l.toArray (lst l.length D) = [i]) (ho : nthO l i = some o)
    (h : J false X P l.toArray Q (MK P l Q X mS g' D') [o] f (mS ++ E)) : PM P l Q X mS g D f E := .of fun a ha => by
  obtain rfl := Nat.eq_of_beq_eq_true hg
  refine ⟨fun h0 => absurd (hr ▸ h0) (by simp), fun j hj => ?_⟩
  rw [hr] at hj
  obtain rfl : j = i := by simpa using hj
  exact mop hD ho h a ha
theorem mkeep {g : Nat} {D : List Nat} {m : Mem} (E' : Mem) (hS : ∀ w, Cl X m w → Cl X (mS ++ E') w) (h : PM P l Q X mS g D f E') : PJ X (MK P l Q X mS g D) f m := .of fun a w s => ⟨E', hS w ⟨s.has, s.evo⟩, h.out a s.agr⟩
theorem mdone {g : Nat} {D : List Nat} (hr : Region.ready .any l.toArray (lst l.length D) = []) (h : PJ X (Q .normal) f (mS ++ E)) : PM P l Q X mS g D f E := .of fun a ha => by
  cases g with
  | zero => exact ⟨hr, fun w hC => h.out a w ⟨ha, hC.1, hC.2⟩⟩
  | succ g => exact ⟨fun _ w hC => h.out a w ⟨ha, hC.1, hC.2⟩, fun i hi => by rw [hr] at hi; cases hi⟩
theorem ranyM {id : Nat} {m : Mem} (mS E : Mem) (hm0 : m = mS ++ E) (hm : P.follows .mixedOrders = true) (h : PM P l Q X mS l.length [] f E) : PJ X ((Code.region id l.toArray true).wp P Q) f m := .of fun a w s => by
  subst hm0
  refine wp_region_any hm (wpAny_of_M _ _ a E _ ⟨s.has.drawn _, s.evo.drawn _⟩ ?_)
  have := h.out a s.agr
  have e : lst l.length [] = Array.replicate l.toArray.size false := by simp [lst]
  rw [e] at this
  simpa using this
end
end Go.Rx
namespace Go.Proofs.YtkehggbmpdacpacGreatDoor.Pg
open Go.Rx hiding bt
open Go.RowKit Go.Proofs.YtkehggbmpdacpacGreatDoor.Dec0 Go.Proofs.YtkehggbmpdacpacGreatDoor.Lex0
theorem bo57 : bodyB Tryz.prog 41 = true := by kernel_rfl
theorem ze42 : (Tryz.prog.info? 51).bind (·.zero) = some (.agg #[.int .i64 0, .int .i64 0, .string ⟨#[]⟩, .bool false, .int .u16 0]) := by kernel_rfl
theorem ag42 : aggB Tryz.prog 51 5 = true := by kernel_rfl
theorem si42 : (Tryz.prog.info? 51).map (·.size) = some 5 := by kernel_rfl
theorem bu42 (a b : Int) (s : ByteArray) (c : Bool) : Tryz.prog.built 51 [(0, .int .i64 a), (1, .int .i64 b), (2, .string s), (3, .bool c)] = some [.int .i64 a, .int .i64 b, .string s, .bool c, .int .u16 0].toArray := by kernel_rfl
theorem fb42_4 : fieldB Tryz.prog 51 4 = some 4 := by kernel_rfl
theorem si40 : (Tryz.prog.info? 49).map (·.size) = some 1 := by kernel_rfl
theorem gr115 : growB Tryz.prog 88 4 1 1 = true := by kernel_rfl
theorem wrap16 (n : Int) : IntKind.u16.wrap n = n % 65536 := by simp [IntKind.wrap, IntKind.bits, IntKind.signed]
theorem or_pow {a j : Nat} (ha : a < 2 ^ j) (hj : j < 15) : bits .or .u16 (a : Nat) ((2 ^ j : Nat) : Int) = ((a + 2 ^ j : Nat) : Int) := by
  have h1 : 2 ^ j < 2 ^ 15 := Nat.pow_lt_pow_right (by omega) hj
  have h2 : a ||| 2 ^ j = a + 2 ^ j := by
    have := Nat.two_pow_add_eq_or_of_lt ha 1
    rw [Nat.mul_one] at this
    rw [Nat.or_comm, ← this, Nat.add_comm]
  have h3 : a + 2 ^ j < 2 ^ 16 := by omega
  have e1 : (BitVec.ofInt 16 (a : Nat) ||| BitVec.ofInt 16 ((2 ^ j : Nat) : Int)).toNat = a + 2 ^ j := by
    rw [BitVec.toNat_or, BitVec.ofInt_natCast, BitVec.ofInt_natCast, BitVec.toNat_ofNat, BitVec.toNat_ofNat, Nat.mod_eq_of_lt (by omega), Nat.mod_eq_of_lt (by omega), h2]
  unfold bits
  simp only
  show IntKind.u16.wrap (((BitVec.ofInt 16 (a : Nat) ||| BitVec.ofInt 16 ((2 ^ j : Nat) : Int)).toNat : Nat) : Int) = _
  rw [e1]
  rw [wrap16]
  omega
theorem yshl {X : Cx} {P : Program} {f : Fr} {m : Mem} {ty : TypeId} {pos : String} {af : Array Edge} {gd : Option (Nat × Bool)} {d : Option Tmp} {x y : Operand} {k k' : IntKind} {i j c : Int} {t t' : TypeId} (hx : evF f x = some (.int k i)) (hy : evF f y = some (.int k' j)) (h0 : 0 ≤ j) (hc : k.wrap (i * 2 ^ min j.toNat k.bits) = c) : Yl X P f m ⟨d, .binOp .shl t x y t', ty, pos, af, gd⟩ (.int k c) := .of fun a w s => by
  subst hc
  have h1 : ¬ j < 0 := by omega
  simp [execOp, s.agr.eval hx, s.agr.eval hy, binOp, Op.shift, eqGuard, h1]
theorem shl_pow {j : Nat} (hj : j < 15) : IntKind.u16.wrap (1 * 2 ^ min ((j : Nat) : Int).toNat IntKind.u16.bits) = ((2 ^ j : Nat) : Int) := by
  have h1 : 2 ^ j < 2 ^ 15 := Nat.pow_lt_pow_right (by omega) hj
  have h2 : min ((j : Nat) : Int).toNat IntKind.u16.bits = j := by
    show min j 16 = j
    omega
  rw [h2, wrap16, Int.one_mul]
  have h3 : ((2 : Int) ^ j) = ((2 ^ j : Nat) : Int) := by rw [Int.natCast_pow]; rfl
  rw [h3]
  generalize 2 ^ j = p at h1 ⊢
  omega
def bsum : List Bool → Nat → Nat
  | [], _ => 0
  | b :: r, k => (if b then 2 ^ k else 0) + bsum r (k + 1)
theorem bsum_lt : ∀ (l : List Bool) (k : Nat), bsum l k + 2 ^ k ≤ 2 ^ (k + l.length)
  | [], k => by simp [bsum]
  | b :: r, k => by
    have h := bsum_lt r (k + 1)
    have e : k + (b :: r).length = k + 1 + r.length := by rw [List.length_cons]; omega
    rw [e]
    have h2 : 2 ^ (k + 1) = 2 ^ k + 2 ^ k := by rw [Nat.pow_succ]; omega
    show (if b then 2 ^ k else 0) + bsum r (k + 1) + 2 ^ k ≤ _
    generalize 2 ^ (k + 1 + r.length) = R at h ⊢
    generalize 2 ^ (k + 1) = p1 at h h2
    generalize 2 ^ k = p at h2 ⊢
    split <;> omega
theorem bsum_app : ∀ (l : List Bool) (b : Bool) (k : Nat), bsum (l ++ [b]) k = bsum l k + (if b then 2 ^ (k + l.length) else 0)
  | [], b, k => by simp [bsum]
  | c :: r, b, k => by
    show (if c then 2 ^ k else 0) + bsum (r ++ [b]) (k + 1) = (if c then 2 ^ k else 0) + bsum r (k + 1) + _
    rw [bsum_app r b (k + 1), List.length_cons, show k + 1 + r.length = k + (r.length + 1) by omega]
    omega
def answers (ty : Nat) (nw : Bool) : List Bool := [decide (ty = 18 ∨ ty = 17), decide (ty = 17), nw, decide (ty = 13), decide (ty = 14), decide (ty = 10 ∨ ty = 8), decide (ty = 11 ∨ ty = 9), decide (ty = 12), decide (ty = 15), decide (ty = 16), decide (ty = 10 ∨ ty = 11), decide (3 ≤ ty ∧ ty ≤ 6), decide (ty = 0 ∨ ty = 1), decide (ty = 1), decide (ty = 0)]
theorem bsum_bits (ty : Nat) (nw : Bool) : bsum (answers ty nw) 0 = bitsT ty nw := by
  have e1 : decide (ty = 10 ∨ ty = 8) = decide (ty = 8 ∨ ty = 10) := decide_eq_decide.2 Or.comm
  have e2 : decide (ty = 11 ∨ ty = 9) = decide (ty = 9 ∨ ty = 11) := decide_eq_decide.2 Or.comm
  unfold answers
  rw [e1, e2]
  unfold bsum bsum bsum bsum bsum bsum bsum bsum bsum bsum bsum bsum bsum bsum bsum bsum bitsT
  simp only [decide_eq_true_eq]
  simp only [Nat.add_assoc, Nat.add_zero]
theorem posW_calls {w : World} {s : T} {it : Itm} {cs : List Value} (hi : ItW w s it cs) (hn : it.segs.length ≤ 4294967296) : Calls Tryz.prog 47 #[.agg cs.toArray] w fun e w' => e = .returned (.int .i64 (posI it : Nat)) ∧ Below w.heap.size w w' := by
  obtain ⟨er, sg, hcs, h2, h3⟩ := hi
  subst hcs
  have he : er.oneCell' = true := by
    rcases h2 with ⟨_, rfl⟩ | ⟨_, v, rfl⟩ <;> rfl
  refine enter (fun _ => False) 14 [] Tryz.func47 rfl rfl rfl (vs := [.agg #[.int .i64 it.ty, er, .int .i64 it.low, .int .i64 it.high, sg, .int .u8 (fbN s (ipos it)), .bool it.str]]) (Has.nil _) ?_
  conv => arg 2; arg 2; whnf
  rcases h3 with ⟨hs, rfl⟩ | ⟨A, cap, hs, rfl, hA⟩
  · have hp : posI it = it.low := by unfold posI; rw [hs]
    rw [hp]
    repeat' (first | refine cseq ?_ | refine rtext ?_ | refine cfalse rfl ?_ | refine cskip ?_ | refine cret ?_ | refine jnil ?_ | (first | (show Jo _ (.fieldAddr _ _ _); refine jy (yfield rfl (by first | exact fb88_2' | exact fb88_4') rfl) rfl rfl ?_) | (show Jo _ (.load _ _); refine jy (yload (i := 0) rfl rfl rfl one3) rfl rfl ?_) | refine jas_ rfl rfl rfl ?_ | (show Jo _ (.binOp _ _ _ _ _); ((show Jo _ (.binOp .gtr _ _ _ _); refine jy (ygtr rfl rfl (by (exact decide_eq_false (by omega)))) rfl rfl ?_))) | (show Jo _ (.call _); ((show Jo _ (.call ⟨.builtin .len, _, _⟩); refine jy (ylenl rfl und86') rfl rfl ?_))) | (show Jo _ (.box _ _); refine jbox rfl rfl rfl (fun gb hT => ?_))))
    exact ret1 rfl rfl rfl (fun w' hw' => ⟨rfl, hw'.2.below (fun k _ h => h) (Nat.le_refl _)⟩)
  · obtain ⟨p, r, hsg⟩ : ∃ p r, it.segs = p :: r := by
      cases h : it.segs with
      | nil => exact absurd h hs
      | cons p r => exact ⟨p, r, rfl⟩
    have hp : posI it = p.1 := by unfold posI; rw [hsg]
    have hA0 : w.cell? (A.add 0) = some (.int .i64 p.1) := hA 0 _ (by rw [hsg]; rfl)
    have hlen : 0 < it.segs.length := by rw [hsg]; simp
    rw [hp]
    repeat' (first | refine cseq ?_ | refine rtext ?_ | refine ctrue rfl ?_ | refine cret ?_ | refine tret ?_ | refine jnil ?_ | (first | (show Jo _ (.fieldAddr _ _ _); refine jy (yfield rfl (by first | exact fb88_0' | exact fb88_4') rfl) rfl rfl ?_) | (show Jo _ (.load _ _); first | refine jy (yload (i := 0) rfl rfl rfl one3) rfl rfl ?_ | refine jy (yloadw rfl hA0 (fun h => h) one3) rfl rfl ?_) | refine jas_ rfl rfl rfl ?_ | (show Jo _ (.binOp _ _ _ _ _); ((show Jo _ (.binOp .gtr _ _ _ _); refine jy (ygtr rfl rfl (by (exact decide_eq_true (by omega)))) rfl rfl ?_))) | (show Jo _ (.call _); ((show Jo _ (.call ⟨.builtin .len, _, _⟩); refine jy (ylenl rfl und86') rfl rfl ?_))) | (show Jo _ (.box _ _); refine jbox rfl rfl rfl (fun gb hT => ?_)) | (show Jo _ (.indexAddr 68 _ _); refine jy (yat (p' := A.add 0) rfl rfl und86' sz126' (by omega) (by omega) rfl) rfl rfl ?_) | (show Jo _ (.fieldAddr 97 _ 0); refine jy (yfieldA (p' := A.add 0) rfl fb126_0' (by rw [add_add])) rfl rfl ?_)))
    exact ret1 rfl rfl rfl (fun w' hw' => ⟨rfl, hw'.2.below (fun k _ h => h) (Nat.le_refl _)⟩)
theorem fb88_1' : fieldB Tryz.prog 70 1 = some 1 := by kernel_rfl
theorem sz4 : szB Tryz.prog 4 1 = true := by kernel_rfl
theorem und115' : Tryz.prog.underlying 88 = some (.slice 4) := by kernel_rfl
def tiC (t : Ti) : List Value := [.int .i64 t.ty, .int .i64 t.pos, .string (ba t.text), .bool t.failed, .int .u16 t.is]
theorem retcP {P : Program} {fn : Func} {X : Cx} {R : Ending → World → Prop} {f : Fr} {m : Mem} {t ty g i : Nat} {c : List Value} {tt : TypeId} (hD : X.D = []) (hr : fn.results = #[.cell t ty]) (hv : Rx.look f t = some (.pointer (some ⟨g, 0, none⟩)))
    (hm : m[i]? = some (g, c, Bk.c tt)) (ht : aggB P ty c.length = true) (h : ∀ w, Cl X m w → R (.returned (.agg c.toArray)) w) : PJ X (bodyPost P fn R .ret) f m := .of fun a w s => by
  obtain ⟨h1, fs, h2⟩ := aggB_size ht
  refine bodyPost_ret (v := .agg c.toArray) ?_ (s.agr.defers.trans hD) (h w ⟨s.has, s.evo⟩)
  have e1 := (s.agr.slot t _ hv).2
  simp only [Array.getD_eq_getD_getElem?] at e1
  simp [results, hr, e1, asAddr, run_loadVar_row w g tt ty c.toArray (0, 0) _ (s.has.at hm) h2 rfl (by simpa using h1)]
def plM (g4 gb g5 gl : Nat) (it : Itm) (er sg : Value) (s : T) (L : List Bool) (j : Nat) : Mem := [(g4, [.int .i64 0, .int .i64 0, .string ⟨#[]⟩, .bool false, .int .u16 0], .c 51), (gb, [.int .i64 it.ty, er, .int .i64 it.low, .int .i64 it.high, sg, .int .u8 (fbN s (ipos it)), .bool it.str], .c 70), (g5, [.int .i64 it.ty, .int .i64 (posI it : Nat), .string (ba (valI s it)), .bool (!!it.err), .int .u16 (bsum (L.take j) 0 : Nat)], .c 51), (gl, L.map Value.bool, .c 4)]
set_option maxHeartbeats 4000000 in
theorem plain_calls {w : World} {s : T} {b o c : Nat} {it : Itm} {cs : List Value} (hT0 : Tab w) (hB : Byt w (.slice (some ⟨b, o, none⟩) s.length c) s) (hbw : b < w.heap.size) (hbig : s.length ≤ 4294967296) (hi : ItW w s it cs) (hin : InI s it) :
    Calls Tryz.prog 41 #[.agg cs.toArray, .slice (some ⟨b, o, none⟩) s.length c] w fun e w' => e = .returned (.agg (tiC (toldI envT s it)).toArray) ∧ Below w.heap.size w w' := by
  have hi0 := hi
  obtain ⟨er, sg, hcs, h2, h3⟩ := hi0
  subst hcs
  have hn32 : it.segs.length ≤ 4294967296 := Nat.le_trans hin.n hbig
  have hnil : nilI er = some (!it.err) := by
    rcases h2 with ⟨h, rfl⟩ | ⟨h, v, rfl⟩ <;> rw [h] <;> rfl
  have he : er.oneCell' = true := by
    rcases h2 with ⟨_, rfl⟩ | ⟨_, v, rfl⟩ <;> rfl
  have hsg := h3.one
  refine enter (fun _ => False) 66 [] Tryz.func41 rfl rfl rfl (vs := [.agg #[.int .i64 it.ty, er, .int .i64 it.low, .int .i64 it.high, sg, .int .u8 (fbN s (ipos it)), .bool it.str], .slice (some ⟨b, o, none⟩) s.length c]) (Has.nil _) ?_
  conv => arg 2; arg 2; whnf
  refine cseq ?_
  refine rtext ?_
  refine jbox rfl rfl rfl (fun gb hgb => ?_)
  refine jalloc ze42 rfl (fun g4 hg4 => ?_)
  refine jnil ?_
  refine tnorm ?_
  refine cseq ?_
  obtain ⟨iB, hiB⟩ : ∃ x : Nat × List Value × Bk, x = (gb, [.int .i64 it.ty, er, .int .i64 it.low, .int .i64 it.high, sg, .int .u8 (fbN s (ipos it)), .bool it.str], .c 70) := ⟨_, rfl⟩
  refine ranyM [(g4, [.int .i64 0, .int .i64 0, .string ⟨#[]⟩, .bool false, .int .u16 0], .c 51), (gb, [.int .i64 it.ty, er, .int .i64 it.low, .int .i64 it.high, sg, .int .u8 (fbN s (ipos it)), .bool it.str], .c 70)] [] rfl mixed ?_
  refine mq (g' := 2) [0, 1, 2, 3, 4, 5, 6, 7, 8, 9, 10] rfl (by kernel_rfl) (by kernel_rfl) rfl (fun _ d _ _ _ h => by cases d <;> exact h) rfl ?_
  repeat' (first | (show JC _ _ _ _ _ [] _; refine jcnil ?_) | (show JC _ _ _ _ _ (⟨_, .move _, _, _, _, _⟩ :: _) _; refine jcy (fun E => ymove rfl) rfl rfl ?_) | (show JC _ _ _ _ _ (⟨_, .fieldAddr 70 _ _, _, _, _, _⟩ :: _) _; first | refine jcy (fun E => yfield rfl fb88_0' rfl) rfl rfl ?_ | refine jcy (fun E => yfield rfl fb88_1' rfl) rfl rfl ?_) | (show JC _ _ _ _ _ (⟨_, .load 70 _, _, _, _, _⟩ :: _) _; refine jcy (fun E => yloads (i := 1) rfl rfl ag88) rfl rfl ?_) | (show JC _ _ _ _ _ (⟨_, .load 67 _, _, _, _, _⟩ :: _) _; refine jcy (fun E => yload (i := 1) rfl rfl rfl one85') rfl rfl ?_) | (show JC _ _ _ _ _ (⟨_, .load 61 _, _, _, _, _⟩ :: _) _; refine jcy (fun E => yload (i := 1) rfl rfl rfl one79) rfl rfl ?_) | (show JC _ _ _ _ _ (⟨_, .binOp .neq _ _ _ _, _, _, _, _⟩ :: _) _; refine jcy (fun E => yin rfl if79 hnil) rfl rfl ?_) | (show JC _ _ _ _ _ (⟨_, .build _ _, _, _, _, _⟩ :: _) _; refine jcy (fun E => ybuild rfl (bu42 it.ty (posI it : Nat) (ba (valI s it)) (!!it.err))) rfl rfl ?_) | (show JC _ _ _ _ _ (⟨_, .call ⟨.builtin .len, _, _⟩, _, _, _, _⟩ :: _) _; refine jcy (fun E => ylenl rfl und115') rfl rfl ?_) | (show JC _ _ _ _ _ (⟨_, .call ⟨.value (.func 47), _, _⟩, _, _, _, _⟩ :: _) _; refine jcc (vs := [.agg #[.int .i64 it.ty, er, .int .i64 it.low, .int .i64 it.high, sg, .int .u8 (fbN s (ipos it)), .bool it.str]]) bo70 rfl rfl rfl (fun E w' hC => posW_calls (hi.below (hC.2.below (fun k _ h => h) (Nat.le_refl _))) hn32) ?_) | (show JC _ _ _ _ _ (⟨_, .call ⟨.value (.func 48), _, _⟩, _, _, _, _⟩ :: _) _; refine jcc (vs := [.agg #[.int .i64 it.ty, er, .int .i64 it.low, .int .i64 it.high, sg, .int .u8 (fbN s (ipos it)), .bool it.str], .slice (some ⟨b, o, none⟩) s.length c]) bo71 rfl rfl rfl (fun E w' hC => valStr_calls (hB.below (hC.2.below (fun k _ h => h) (Nat.le_refl _)) (Nat.le_refl _)) (Nat.lt_of_lt_of_le hbw hC.2.size) hbig (hi.below (hC.2.below (fun k _ h => h) (Nat.le_refl _))) hin) ?_) | (show JC _ _ _ _ _ (⟨_, .call ⟨.value (.func 51), _, _⟩, _, _, _, _⟩ :: _) _; refine jcc (vs := [.agg #[.int .i64 it.ty, er, .int .i64 it.low, .int .i64 it.high, sg, .int .u8 (fbN s (ipos it)), .bool it.str], .slice (some ⟨b, o, none⟩) s.length c]) bo74 rfl rfl rfl (fun E w' hC => nonws_calls (hT0.below (hC.2.below (fun k _ h => h) (Nat.le_refl _))) (hB.below (hC.2.below (fun k _ h => h) (Nat.le_refl _)) (Nat.le_refl _)) (Nat.lt_of_lt_of_le hbw hC.2.size) hbig (hi.below (hC.2.below (fun k _ h => h) (Nat.le_refl _))) hin) ?_) | (show JC _ _ _ _ _ (⟨_, .call ⟨.value (.func 49), _, _⟩, _, _, _, _⟩ :: _) _; refine jcc (vs := [.agg #[.int .i64 it.ty, er, .int .i64 it.low, .int .i64 it.high, sg, .int .u8 (fbN s (ipos it)), .bool it.str]]) bq72 rfl rfl rfl (fun E w' hC => q72_calls hi.ic) ?_) | (show JC _ _ _ _ _ (⟨_, .call ⟨.value (.func 50), _, _⟩, _, _, _, _⟩ :: _) _; refine jcc (vs := [.agg #[.int .i64 it.ty, er, .int .i64 it.low, .int .i64 it.high, sg, .int .u8 (fbN s (ipos it)), .bool it.str]]) bq73 rfl rfl rfl (fun E w' hC => q73_calls hi.ic) ?_) | (show JC _ _ _ _ _ (⟨_, .call ⟨.value (.func 52), _, _⟩, _, _, _, _⟩ :: _) _; refine jcc (vs := [.agg #[.int .i64 it.ty, er, .int .i64 it.low, .int .i64 it.high, sg, .int .u8 (fbN s (ipos it)), .bool it.str]]) bq75 rfl rfl rfl (fun E w' hC => q75_calls hi.ic) ?_) | (show JC _ _ _ _ _ (⟨_, .call ⟨.value (.func 53), _, _⟩, _, _, _, _⟩ :: _) _; refine jcc (vs := [.agg #[.int .i64 it.ty, er, .int .i64 it.low, .int .i64 it.high, sg, .int .u8 (fbN s (ipos it)), .bool it.str]]) bq76 rfl rfl rfl (fun E w' hC => q76_calls hi.ic) ?_) | (show JC _ _ _ _ _ (⟨_, .call ⟨.value (.func 54), _, _⟩, _, _, _, _⟩ :: _) _; refine jcc (vs := [.agg #[.int .i64 it.ty, er, .int .i64 it.low, .int .i64 it.high, sg, .int .u8 (fbN s (ipos it)), .bool it.str]]) bq77 rfl rfl rfl (fun E w' hC => q77_calls hi.ic) ?_) | (show JC _ _ _ _ _ (⟨_, .call ⟨.value (.func 55), _, _⟩, _, _, _, _⟩ :: _) _; refine jcc (vs := [.agg #[.int .i64 it.ty, er, .int .i64 it.low, .int .i64 it.high, sg, .int .u8 (fbN s (ipos it)), .bool it.str]]) bq78 rfl rfl rfl (fun E w' hC => q78_calls hi.ic) ?_) | (show JC _ _ _ _ _ (⟨_, .call ⟨.value (.func 56), _, _⟩, _, _, _, _⟩ :: _) _; refine jcc (vs := [.agg #[.int .i64 it.ty, er, .int .i64 it.low, .int .i64 it.high, sg, .int .u8 (fbN s (ipos it)), .bool it.str]]) bq79 rfl rfl rfl (fun E w' hC => q79_calls hi.ic) ?_) | (show JC _ _ _ _ _ (⟨_, .call ⟨.value (.func 57), _, _⟩, _, _, _, _⟩ :: _) _; refine jcc (vs := [.agg #[.int .i64 it.ty, er, .int .i64 it.low, .int .i64 it.high, sg, .int .u8 (fbN s (ipos it)), .bool it.str]]) bq80 rfl rfl rfl (fun E w' hC => q80_calls hi.ic) ?_) | (show JC _ _ _ _ _ (⟨_, .call ⟨.value (.func 58), _, _⟩, _, _, _, _⟩ :: _) _; refine jcc (vs := [.agg #[.int .i64 it.ty, er, .int .i64 it.low, .int .i64 it.high, sg, .int .u8 (fbN s (ipos it)), .bool it.str]]) bq81 rfl rfl rfl (fun E w' hC => q81_calls hi.ic) ?_) | (show JC _ _ _ _ _ (⟨_, .call ⟨.value (.func 59), _, _⟩, _, _, _, _⟩ :: _) _; refine jcc (vs := [.agg #[.int .i64 it.ty, er, .int .i64 it.low, .int .i64 it.high, sg, .int .u8 (fbN s (ipos it)), .bool it.str]]) bq82 rfl rfl rfl (fun E w' hC => q82_calls hi.ic) ?_) | (show JC _ _ _ _ _ (⟨_, .call ⟨.value (.func 60), _, _⟩, _, _, _, _⟩ :: _) _; refine jcc (vs := [.agg #[.int .i64 it.ty, er, .int .i64 it.low, .int .i64 it.high, sg, .int .u8 (fbN s (ipos it)), .bool it.str]]) bq83 rfl rfl rfl (fun E w' hC => q83_calls hi.ic) ?_) | (show JC _ _ _ _ _ (⟨_, .call ⟨.value (.func 61), _, _⟩, _, _, _, _⟩ :: _) _; refine jcc (vs := [.agg #[.int .i64 it.ty, er, .int .i64 it.low, .int .i64 it.high, sg, .int .u8 (fbN s (ipos it)), .bool it.str]]) bq84 rfl rfl rfl (fun E w' hC => q84_calls hi.ic) ?_) | (show JC _ _ _ _ _ (⟨_, .call ⟨.value (.func 62), _, _⟩, _, _, _, _⟩ :: _) _; refine jcc (vs := [.agg #[.int .i64 it.ty, er, .int .i64 it.low, .int .i64 it.high, sg, .int .u8 (fbN s (ipos it)), .bool it.str]]) bq85 rfl rfl rfl (fun E w' hC => q85_calls hi.ic) ?_) | (show JC _ _ _ _ _ (⟨_, .call ⟨.value (.func 63), _, _⟩, _, _, _, _⟩ :: _) _; refine jcc (vs := [.agg #[.int .i64 it.ty, er, .int .i64 it.low, .int .i64 it.high, sg, .int .u8 (fbN s (ipos it)), .bool it.str]]) bq86 rfl rfl rfl (fun E w' hC => q86_calls hi.ic) ?_))
  refine me1 (g' := 1) 11 rfl rfl (by kernel_rfl) rfl ?_
  refine jalloc ze42 rfl (fun g5 hg5 => ?_)
  refine jnil ?_
  refine mkeep [(g5, [.int .i64 0, .int .i64 0, .string ⟨#[]⟩, .bool false, .int .u16 0], .c 51)] (fun w h => h.perm (List.perm_append_comm (l₁ := [_]))) ?_
  refine me1 (g' := 0) 12 rfl rfl (by kernel_rfl) rfl ?_
  refine jstores (i := 2) rfl rfl rfl rfl rfl si42 (.inr hg5) ?_
  refine jnil ?_
  refine mkeep [(g5, [.int .i64 it.ty, .int .i64 (posI it : Nat), .string (ba (valI s it)), .bool (!!it.err), .int .u16 0], .c 51)] (fun w h => h) ?_
  refine mdone (by kernel_rfl) ?_
  refine tnorm ?_
  refine cseq ?_
  refine cseq ?_
  obtain ⟨E5, hE5⟩ : ∃ x : Nat × List Value × Bk, x = (g5, [.int .i64 it.ty, .int .i64 (posI it : Nat), .string (ba (valI s it)), .bool (!!it.err), .int .u16 0], .c 51) := ⟨_, rfl⟩
  rw [← hE5]
  refine ranyM [(g4, [.int .i64 0, .int .i64 0, .string ⟨#[]⟩, .bool false, .int .u16 0], .c 51), (gb, [.int .i64 it.ty, er, .int .i64 it.low, .int .i64 it.high, sg, .int .u8 (fbN s (ipos it)), .bool it.str], .c 70)] [E5] rfl mixed ?_
  refine mq (g' := 2) [0, 1, 2, 3, 4, 5, 6, 7, 8, 9, 10, 11, 12, 13, 14, 15, 16, 17, 18, 19, 20, 21, 22, 23, 24, 25, 26, 27, 28, 29, 30, 33] rfl (by kernel_rfl) (by kernel_rfl) rfl (fun _ d _ _ _ h => by cases d <;> exact h) rfl ?_
  repeat' (first | (show JC _ _ _ _ _ [] _; refine jcnil ?_) | (show JC _ _ _ _ _ (⟨_, .move _, _, _, _, _⟩ :: _) _; refine jcy (fun E => ymove rfl) rfl rfl ?_) | (show JC _ _ _ _ _ (⟨_, .fieldAddr 70 _ _, _, _, _, _⟩ :: _) _; fail) | (show JC _ _ _ _ _ (⟨_, .load 70 _, _, _, _, _⟩ :: _) _; refine jcy (fun E => yloads (i := 1) rfl rfl ag88) rfl rfl ?_) | (show JC _ _ _ _ _ (⟨_, .load 67 _, _, _, _, _⟩ :: _) _; refine jcy (fun E => yload (i := 1) rfl rfl rfl one85') rfl rfl ?_) | (show JC _ _ _ _ _ (⟨_, .load 61 _, _, _, _, _⟩ :: _) _; refine jcy (fun E => yload (i := 1) rfl rfl rfl one79) rfl rfl ?_) | (show JC _ _ _ _ _ (⟨_, .binOp .neq _ _ _ _, _, _, _, _⟩ :: _) _; refine jcy (fun E => yin rfl if79 hnil) rfl rfl ?_) | (show JC _ _ _ _ _ (⟨_, .build _ _, _, _, _, _⟩ :: _) _; refine jcy (fun E => ybuild rfl (bu42 it.ty (posI it : Nat) (ba (valI s it)) (!!it.err))) rfl rfl ?_) | (show JC _ _ _ _ _ (⟨_, .call ⟨.builtin .len, _, _⟩, _, _, _, _⟩ :: _) _; refine jcy (fun E => ylenl rfl und115') rfl rfl ?_) | (show JC _ _ _ _ _ (⟨_, .call ⟨.value (.func 47), _, _⟩, _, _, _, _⟩ :: _) _; refine jcc (vs := [.agg #[.int .i64 it.ty, er, .int .i64 it.low, .int .i64 it.high, sg, .int .u8 (fbN s (ipos it)), .bool it.str]]) bo70 rfl rfl rfl (fun E w' hC => posW_calls (hi.below (hC.2.below (fun k _ h => h) (Nat.le_refl _))) hn32) ?_) | (show JC _ _ _ _ _ (⟨_, .call ⟨.value (.func 48), _, _⟩, _, _, _, _⟩ :: _) _; refine jcc (vs := [.agg #[.int .i64 it.ty, er, .int .i64 it.low, .int .i64 it.high, sg, .int .u8 (fbN s (ipos it)), .bool it.str], .slice (some ⟨b, o, none⟩) s.length c]) bo71 rfl rfl rfl (fun E w' hC => valStr_calls (hB.below (hC.2.below (fun k _ h => h) (Nat.le_refl _)) (Nat.le_refl _)) (Nat.lt_of_lt_of_le hbw hC.2.size) hbig (hi.below (hC.2.below (fun k _ h => h) (Nat.le_refl _))) hin) ?_) | (show JC _ _ _ _ _ (⟨_, .call ⟨.value (.func 51), _, _⟩, _, _, _, _⟩ :: _) _; refine jcc (vs := [.agg #[.int .i64 it.ty, er, .int .i64 it.low, .int .i64 it.high, sg, .int .u8 (fbN s (ipos it)), .bool it.str], .slice (some ⟨b, o, none⟩) s.length c]) bo74 rfl rfl rfl (fun E w' hC => nonws_calls (hT0.below (hC.2.below (fun k _ h => h) (Nat.le_refl _))) (hB.below (hC.2.below (fun k _ h => h) (Nat.le_refl _)) (Nat.le_refl _)) (Nat.lt_of_lt_of_le hbw hC.2.size) hbig (hi.below (hC.2.below (fun k _ h => h) (Nat.le_refl _))) hin) ?_) | (show JC _ _ _ _ _ (⟨_, .call ⟨.value (.func 49), _, _⟩, _, _, _, _⟩ :: _) _; refine jcc (vs := [.agg #[.int .i64 it.ty, er, .int .i64 it.low, .int .i64 it.high, sg, .int .u8 (fbN s (ipos it)), .bool it.str]]) bq72 rfl rfl rfl (fun E w' hC => q72_calls hi.ic) ?_) | (show JC _ _ _ _ _ (⟨_, .call ⟨.value (.func 50), _, _⟩, _, _, _, _⟩ :: _) _; refine jcc (vs := [.agg #[.int .i64 it.ty, er, .int .i64 it.low, .int .i64 it.high, sg, .int .u8 (fbN s (ipos it)), .bool it.str]]) bq73 rfl rfl rfl (fun E w' hC => q73_calls hi.ic) ?_) | (show JC _ _ _ _ _ (⟨_, .call ⟨.value (.func 52), _, _⟩, _, _, _, _⟩ :: _) _; refine jcc (vs := [.agg #[.int .i64 it.ty, er, .int .i64 it.low, .int .i64 it.high, sg, .int .u8 (fbN s (ipos it)), .bool it.str]]) bq75 rfl rfl rfl (fun E w' hC => q75_calls hi.ic) ?_) | (show JC _ _ _ _ _ (⟨_, .call ⟨.value (.func 53), _, _⟩, _, _, _, _⟩ :: _) _; refine jcc (vs := [.agg #[.int .i64 it.ty, er, .int .i64 it.low, .int .i64 it.high, sg, .int .u8 (fbN s (ipos it)), .bool it.str]]) bq76 rfl rfl rfl (fun E w' hC => q76_calls hi.ic) ?_) | (show JC _ _ _ _ _ (⟨_, .call ⟨.value (.func 54), _, _⟩, _, _, _, _⟩ :: _) _; refine jcc (vs := [.agg #[.int .i64 it.ty, er, .int .i64 it.low, .int .i64 it.high, sg, .int .u8 (fbN s (ipos it)), .bool it.str]]) bq77 rfl rfl rfl (fun E w' hC => q77_calls hi.ic) ?_) | (show JC _ _ _ _ _ (⟨_, .call ⟨.value (.func 55), _, _⟩, _, _, _, _⟩ :: _) _; refine jcc (vs := [.agg #[.int .i64 it.ty, er, .int .i64 it.low, .int .i64 it.high, sg, .int .u8 (fbN s (ipos it)), .bool it.str]]) bq78 rfl rfl rfl (fun E w' hC => q78_calls hi.ic) ?_) | (show JC _ _ _ _ _ (⟨_, .call ⟨.value (.func 56), _, _⟩, _, _, _, _⟩ :: _) _; refine jcc (vs := [.agg #[.int .i64 it.ty, er, .int .i64 it.low, .int .i64 it.high, sg, .int .u8 (fbN s (ipos it)), .bool it.str]]) bq79 rfl rfl rfl (fun E w' hC => q79_calls hi.ic) ?_) | (show JC _ _ _ _ _ (⟨_, .call ⟨.value (.func 57), _, _⟩, _, _, _, _⟩ :: _) _; refine jcc (vs := [.agg #[.int .i64 it.ty, er, .int .i64 it.low, .int .i64 it.high, sg, .int .u8 (fbN s (ipos it)), .bool it.str]]) bq80 rfl rfl rfl (fun E w' hC => q80_calls hi.ic) ?_) | (show JC _ _ _ _ _ (⟨_, .call ⟨.value (.func 58), _, _⟩, _, _, _, _⟩ :: _) _; refine jcc (vs := [.agg #[.int .i64 it.ty, er, .int .i64 it.low, .int .i64 it.high, sg, .int .u8 (fbN s (ipos it)), .bool it.str]]) bq81 rfl rfl rfl (fun E w' hC => q81_calls hi.ic) ?_) | (show JC _ _ _ _ _ (⟨_, .call ⟨.value (.func 59), _, _⟩, _, _, _, _⟩ :: _) _; refine jcc (vs := [.agg #[.int .i64 it.ty, er, .int .i64 it.low, .int .i64 it.high, sg, .int .u8 (fbN s (ipos it)), .bool it.str]]) bq82 rfl rfl rfl (fun E w' hC => q82_calls hi.ic) ?_) | (show JC _ _ _ _ _ (⟨_, .call ⟨.value (.func 60), _, _⟩, _, _, _, _⟩ :: _) _; refine jcc (vs := [.agg #[.int .i64 it.ty, er, .int .i64 it.low, .int .i64 it.high, sg, .int .u8 (fbN s (ipos it)), .bool it.str]]) bq83 rfl rfl rfl (fun E w' hC => q83_calls hi.ic) ?_) | (show JC _ _ _ _ _ (⟨_, .call ⟨.value (.func 61), _, _⟩, _, _, _, _⟩ :: _) _; refine jcc (vs := [.agg #[.int .i64 it.ty, er, .int .i64 it.low, .int .i64 it.high, sg, .int .u8 (fbN s (ipos it)), .bool it.str]]) bq84 rfl rfl rfl (fun E w' hC => q84_calls hi.ic) ?_) | (show JC _ _ _ _ _ (⟨_, .call ⟨.value (.func 62), _, _⟩, _, _, _, _⟩ :: _) _; refine jcc (vs := [.agg #[.int .i64 it.ty, er, .int .i64 it.low, .int .i64 it.high, sg, .int .u8 (fbN s (ipos it)), .bool it.str]]) bq85 rfl rfl rfl (fun E w' hC => q85_calls hi.ic) ?_) | (show JC _ _ _ _ _ (⟨_, .call ⟨.value (.func 63), _, _⟩, _, _, _, _⟩ :: _) _; refine jcc (vs := [.agg #[.int .i64 it.ty, er, .int .i64 it.low, .int .i64 it.high, sg, .int .u8 (fbN s (ipos it)), .bool it.str]]) bq86 rfl rfl rfl (fun E w' hC => q86_calls hi.ic) ?_))
  obtain ⟨L, hL⟩ : ∃ L, L = answers it.ty (!(trS (valI s it)).isEmpty) := ⟨_, rfl⟩
  have hLl : L.length = 15 := by rw [hL]; rfl
  refine me1 (g' := 1) 31 rfl rfl (by kernel_rfl) rfl ?_
  refine jlitN (n := 15) (vs := L.map Value.bool) (c := L.map Value.bool) (by rw [hL]; rfl) (by rw [List.length_map]; exact hLl) (by rw [hL]; rfl) (by rw [hL]; rfl) gr115 rfl rfl rfl rfl (fun gl hgl => ?_)
  refine jnil ?_
  refine mkeep [E5, (gl, L.map Value.bool, .c 4)] (fun w h => h.perm (List.perm_append_comm (l₁ := [_]))) ?_
  refine mq (g' := 0) [32] rfl (by kernel_rfl) (by kernel_rfl) rfl (fun _ d _ _ _ h => by cases d <;> exact h) rfl ?_
  repeat' (first | (show JC _ _ _ _ _ [] _; refine jcnil ?_) | (show JC _ _ _ _ _ (⟨_, .move _, _, _, _, _⟩ :: _) _; refine jcy (fun E => ymove rfl) rfl rfl ?_) | (show JC _ _ _ _ _ (⟨_, .fieldAddr 70 _ _, _, _, _, _⟩ :: _) _; fail) | (show JC _ _ _ _ _ (⟨_, .load 70 _, _, _, _, _⟩ :: _) _; refine jcy (fun E => yloads (i := 1) rfl rfl ag88) rfl rfl ?_) | (show JC _ _ _ _ _ (⟨_, .load 67 _, _, _, _, _⟩ :: _) _; refine jcy (fun E => yload (i := 1) rfl rfl rfl one85') rfl rfl ?_) | (show JC _ _ _ _ _ (⟨_, .load 61 _, _, _, _, _⟩ :: _) _; refine jcy (fun E => yload (i := 1) rfl rfl rfl one79) rfl rfl ?_) | (show JC _ _ _ _ _ (⟨_, .binOp .neq _ _ _ _, _, _, _, _⟩ :: _) _; refine jcy (fun E => yin rfl if79 hnil) rfl rfl ?_) | (show JC _ _ _ _ _ (⟨_, .build _ _, _, _, _, _⟩ :: _) _; refine jcy (fun E => ybuild rfl (bu42 it.ty (posI it : Nat) (ba (valI s it)) (!!it.err))) rfl rfl ?_) | (show JC _ _ _ _ _ (⟨_, .call ⟨.builtin .len, _, _⟩, _, _, _, _⟩ :: _) _; refine jcy (fun E => ylenl rfl und115') rfl rfl ?_) | (show JC _ _ _ _ _ (⟨_, .call ⟨.value (.func 47), _, _⟩, _, _, _, _⟩ :: _) _; refine jcc (vs := [.agg #[.int .i64 it.ty, er, .int .i64 it.low, .int .i64 it.high, sg, .int .u8 (fbN s (ipos it)), .bool it.str]]) bo70 rfl rfl rfl (fun E w' hC => posW_calls (hi.below (hC.2.below (fun k _ h => h) (Nat.le_refl _))) hn32) ?_) | (show JC _ _ _ _ _ (⟨_, .call ⟨.value (.func 48), _, _⟩, _, _, _, _⟩ :: _) _; refine jcc (vs := [.agg #[.int .i64 it.ty, er, .int .i64 it.low, .int .i64 it.high, sg, .int .u8 (fbN s (ipos it)), .bool it.str], .slice (some ⟨b, o, none⟩) s.length c]) bo71 rfl rfl rfl (fun E w' hC => valStr_calls (hB.below (hC.2.below (fun k _ h => h) (Nat.le_refl _)) (Nat.le_refl _)) (Nat.lt_of_lt_of_le hbw hC.2.size) hbig (hi.below (hC.2.below (fun k _ h => h) (Nat.le_refl _))) hin) ?_) | (show JC _ _ _ _ _ (⟨_, .call ⟨.value (.func 51), _, _⟩, _, _, _, _⟩ :: _) _; refine jcc (vs := [.agg #[.int .i64 it.ty, er, .int .i64 it.low, .int .i64 it.high, sg, .int .u8 (fbN s (ipos it)), .bool it.str], .slice (some ⟨b, o, none⟩) s.length c]) bo74 rfl rfl rfl (fun E w' hC => nonws_calls (hT0.below (hC.2.below (fun k _ h => h) (Nat.le_refl _))) (hB.below (hC.2.below (fun k _ h => h) (Nat.le_refl _)) (Nat.le_refl _)) (Nat.lt_of_lt_of_le hbw hC.2.size) hbig (hi.below (hC.2.below (fun k _ h => h) (Nat.le_refl _))) hin) ?_) | (show JC _ _ _ _ _ (⟨_, .call ⟨.value (.func 49), _, _⟩, _, _, _, _⟩ :: _) _; refine jcc (vs := [.agg #[.int .i64 it.ty, er, .int .i64 it.low, .int .i64 it.high, sg, .int .u8 (fbN s (ipos it)), .bool it.str]]) bq72 rfl rfl rfl (fun E w' hC => q72_calls hi.ic) ?_) | (show JC _ _ _ _ _ (⟨_, .call ⟨.value (.func 50), _, _⟩, _, _, _, _⟩ :: _) _; refine jcc (vs := [.agg #[.int .i64 it.ty, er, .int .i64 it.low, .int .i64 it.high, sg, .int .u8 (fbN s (ipos it)), .bool it.str]]) bq73 rfl rfl rfl (fun E w' hC => q73_calls hi.ic) ?_) | (show JC _ _ _ _ _ (⟨_, .call ⟨.value (.func 52), _, _⟩, _, _, _, _⟩ :: _) _; refine jcc (vs := [.agg #[.int .i64 it.ty, er, .int .i64 it.low, .int .i64 it.high, sg, .int .u8 (fbN s (ipos it)), .bool it.str]]) bq75 rfl rfl rfl (fun E w' hC => q75_calls hi.ic) ?_) | (show JC _ _ _ _ _ (⟨_, .call ⟨.value (.func 53), _, _⟩, _, _, _, _⟩ :: _) _; refine jcc (vs := [.agg #[.int .i64 it.ty, er, .int .i64 it.low, .int .i64 it.high, sg, .int .u8 (fbN s (ipos it)), .bool it.str]]) bq76 rfl rfl rfl (fun E w' hC => q76_calls hi.ic) ?_) | (show JC _ _ _ _ _ (⟨_, .call ⟨.value (.func 54), _, _⟩, _, _, _, _⟩ :: _) _; refine jcc (vs := [.agg #[.int .i64 it.ty, er, .int .i64 it.low, .int .i64 it.high, sg, .int .u8 (fbN s (ipos it)), .bool it.str]]) bq77 rfl rfl rfl (fun E w' hC => q77_calls hi.ic) ?_) | (show JC _ _ _ _ _ (⟨_, .call ⟨.value (.func 55), _, _⟩, _, _, _, _⟩ :: _) _; refine jcc (vs := [.agg #[.int .i64 it.ty, er, .int .i64 it.low, .int .i64 it.high, sg, .int .u8 (fbN s (ipos it)), .bool it.str]]) bq78 rfl rfl rfl (fun E w' hC => q78_calls hi.ic) ?_) | (show JC _ _ _ _ _ (⟨_, .call ⟨.value (.func 56), _, _⟩, _, _, _, _⟩ :: _) _; refine jcc (vs := [.agg #[.int .i64 it.ty, er, .int .i64 it.low, .int .i64 it.high, sg, .int .u8 (fbN s (ipos it)), .bool it.str]]) bq79 rfl rfl rfl (fun E w' hC => q79_calls hi.ic) ?_) | (show JC _ _ _ _ _ (⟨_, .call ⟨.value (.func 57), _, _⟩, _, _, _, _⟩ :: _) _; refine jcc (vs := [.agg #[.int .i64 it.ty, er, .int .i64 it.low, .int .i64 it.high, sg, .int .u8 (fbN s (ipos it)), .bool it.str]]) bq80 rfl rfl rfl (fun E w' hC => q80_calls hi.ic) ?_) | (show JC _ _ _ _ _ (⟨_, .call ⟨.value (.func 58), _, _⟩, _, _, _, _⟩ :: _) _; refine jcc (vs := [.agg #[.int .i64 it.ty, er, .int .i64 it.low, .int .i64 it.high, sg, .int .u8 (fbN s (ipos it)), .bool it.str]]) bq81 rfl rfl rfl (fun E w' hC => q81_calls hi.ic) ?_) | (show JC _ _ _ _ _ (⟨_, .call ⟨.value (.func 59), _, _⟩, _, _, _, _⟩ :: _) _; refine jcc (vs := [.agg #[.int .i64 it.ty, er, .int .i64 it.low, .int .i64 it.high, sg, .int .u8 (fbN s (ipos it)), .bool it.str]]) bq82 rfl rfl rfl (fun E w' hC => q82_calls hi.ic) ?_) | (show JC _ _ _ _ _ (⟨_, .call ⟨.value (.func 60), _, _⟩, _, _, _, _⟩ :: _) _; refine jcc (vs := [.agg #[.int .i64 it.ty, er, .int .i64 it.low, .int .i64 it.high, sg, .int .u8 (fbN s (ipos it)), .bool it.str]]) bq83 rfl rfl rfl (fun E w' hC => q83_calls hi.ic) ?_) | (show JC _ _ _ _ _ (⟨_, .call ⟨.value (.func 61), _, _⟩, _, _, _, _⟩ :: _) _; refine jcc (vs := [.agg #[.int .i64 it.ty, er, .int .i64 it.low, .int .i64 it.high, sg, .int .u8 (fbN s (ipos it)), .bool it.str]]) bq84 rfl rfl rfl (fun E w' hC => q84_calls hi.ic) ?_) | (show JC _ _ _ _ _ (⟨_, .call ⟨.value (.func 62), _, _⟩, _, _, _, _⟩ :: _) _; refine jcc (vs := [.agg #[.int .i64 it.ty, er, .int .i64 it.low, .int .i64 it.high, sg, .int .u8 (fbN s (ipos it)), .bool it.str]]) bq85 rfl rfl rfl (fun E w' hC => q85_calls hi.ic) ?_) | (show JC _ _ _ _ _ (⟨_, .call ⟨.value (.func 63), _, _⟩, _, _, _, _⟩ :: _) _; refine jcc (vs := [.agg #[.int .i64 it.ty, er, .int .i64 it.low, .int .i64 it.high, sg, .int .u8 (fbN s (ipos it)), .bool it.str]]) bq86 rfl rfl rfl (fun E w' hC => q86_calls hi.ic) ?_))
  refine mdone (by kernel_rfl) ?_
  rw [hE5]
  repeat' ((fail_if_success (show PJ _ (Code.wp _ (Code.loop _) _) _ _)); first | ((show PJ _ (Code.wp _ _ _) _ _; (refine cblk ?_))))
  refine fin (f' := [(5, .pointer (some ⟨g5, 0, none⟩)), (4, .pointer (some ⟨g4, 0, none⟩)), (50, .slice (some ⟨gl, 0, none⟩) 15 15), (51, .int .i64 (15 : Nat)), (52, .int .i64 (0 : Nat))]) (m' := plM g4 gb g5 gl it er sg s L 0)
    (cloop (ι := Nat) (fun j => [(5, .pointer (some ⟨g5, 0, none⟩)), (4, .pointer (some ⟨g4, 0, none⟩)), (50, .slice (some ⟨gl, 0, none⟩) 15 15), (51, .int .i64 (15 : Nat)), (52, .int .i64 (j : Nat))]) (fun j => plM g4 gb g5 gl it er sg s L j) (fun n j => n = 15 - j ∧ j ≤ 15) 15 0 ⟨rfl, Nat.zero_le _⟩ ?_) ⟨rfl, rfl, rfl, rfl, rfl, trivial⟩ rfl
  rintro n j ⟨rfl, hj⟩ K hK
  by_cases hlt : j < 15
  · obtain ⟨bj, hbj⟩ : ∃ bj, L[j]? = some bj := ⟨_, List.getElem?_eq_getElem (by omega)⟩
    have hk := hK (15 - (j + 1)) (j + 1) (by omega) ⟨rfl, by omega⟩
    have htk : (L.take j).length = j := by rw [List.length_take]; omega
    have hsum : bsum (L.take (j + 1)) 0 = bsum (L.take j) 0 + (if bj then 2 ^ j else 0) := by
      obtain ⟨h1, h2⟩ := List.getElem?_eq_some_iff.1 hbj
      rw [← List.take_append_getElem h1, h2, bsum_app, htk, Nat.zero_add]
    have hlt2 : bsum (L.take j) 0 < 2 ^ j := by
      have := bsum_lt (L.take j) 0
      rw [htk, Nat.zero_add] at this
      omega
    have hnth : nth (L.map Value.bool) j = some (.bool bj) := by rw [nth_eq, List.getElem?_map, hbj]; rfl
    cases bj
    · unfold plM at hk ⊢
      rw [hsum, if_neg (by simp), Nat.add_zero] at hk
      repeat' (first | refine cseq ?_ | refine rtext ?_ | refine ctrue rfl ?_ | refine cfalse rfl ?_ | refine cskip ?_ | refine cblk ?_ | refine tnorm ?_ | refine jnil ?_ | (first | refine jmv rfl rfl rfl ?_ | (show Jo _ (.load _ _); refine jy (yload (i := 3) rfl rfl hnth one4) rfl rfl ?_) | refine jas_ rfl rfl rfl ?_ | (show Jo _ (.binOp _ _ _ _ _); first | (show Jo (some 64) (.binOp .add _ _ _ _); refine jy (yadd (c := ((j + 1 : Nat) : Int)) rfl rfl (by rw [i64_in (by omega) (by omega)]; omega)) rfl rfl ?_) | refine jy (ylss rfl rfl (by (exact decide_eq_true (by omega)))) rfl rfl ?_) | (show Jo _ (.indexAddr 88 _ _); refine jy (yatb (o' := j) rfl rfl und115' sz4 (by omega) (by omega) (by omega)) rfl rfl ?_)))
      exact fin hk ⟨rfl, rfl, rfl, rfl, rfl, trivial⟩ rfl
    · unfold plM at hk ⊢
      rw [hsum, if_pos rfl] at hk
      repeat' (first | (show PJ _ (Code.wp _ _ _) _ _; first | refine cseq ?_ | refine rtext ?_ | refine ctrue rfl ?_ | refine cskip ?_ | refine cblk ?_ | (show PJ _ (Code.wp _ (Code.region 6 _ true) _) _ _; refine rtail 6 mixed (by kernel_rfl) ?_)) | refine tnorm ?_ | (show PJ _ (wpList _ _ _ _) _ _; refine jlist ?_) | refine jnil ?_ | (first | refine jmv rfl rfl rfl ?_ | (show Jo _ (.fieldAddr _ _ _); refine jy (yfield rfl fb42_4 rfl) rfl rfl ?_) | (show Jo _ (.load _ _); first | refine jy (yload (i := 3) rfl rfl hnth one4) rfl rfl ?_ | refine jy (yload (i := 2) rfl rfl rfl one4) rfl rfl ?_) | refine jas_ rfl rfl rfl ?_ | (show Jo _ (.binOp _ _ _ _ _); first | (show Jo (some 64) (.binOp .add _ _ _ _); refine jy (yadd (c := ((j + 1 : Nat) : Int)) rfl rfl (by rw [i64_in (by omega) (by omega)]; omega)) rfl rfl ?_) | (show Jo _ (.binOp .shl _ _ _ _); refine jy (yshl rfl rfl (by omega) (shl_pow hlt)) rfl rfl ?_) | (show Jo _ (.binOp .or _ _ _ _); refine jy (yor rfl rfl (or_pow hlt2 hlt)) rfl rfl ?_) | refine jy (ylss rfl rfl (by (exact decide_eq_true (by omega)))) rfl rfl ?_) | (show Jo _ (.store _ _ _); refine jstore (i := 2) rfl rfl rfl rfl rfl si40 (.inr hg5) ?_) | (show Jo _ (.indexAddr 88 _ _); refine jy (yatb (o' := j) rfl rfl und115' sz4 (by omega) (by omega) (by omega)) rfl rfl ?_)))
      exact fin hk ⟨rfl, rfl, rfl, rfl, rfl, trivial⟩ rfl
  · obtain rfl : j = 15 := by omega
    have hfin : bsum (L.take 15) 0 = bitsT it.ty (!(trS (valI s it)).isEmpty) := by rw [List.take_of_length_le (by omega), hL, bsum_bits]
    unfold plM
    rw [hfin]
    repeat' (first | refine cseq ?_ | refine rtext ?_ | refine cfalse rfl ?_ | refine cret ?_ | refine cexit ?_ | refine jnil ?_ | (first | (show Jo _ (.load _ _); refine jy (yloads (i := 2) rfl rfl ag42) rfl rfl ?_) | (show Jo _ (.binOp _ _ _ _ _); refine jy (ylss rfl rfl (by (exact decide_eq_false (by omega)))) rfl rfl ?_) | (show Jo _ (.store _ _ _); refine jstores (i := 0) rfl rfl rfl rfl rfl si42 (.inr hg4) ?_)))
    exact retcP (i := 0) rfl rfl rfl rfl ag42 (fun w' hw' => ⟨by rw [Bool.not_not]; rfl, hw'.2.below (fun k _ h => h) (Nat.le_refl _)⟩)
theorem bo56 : bodyB Tryz.prog 40 = true := by kernel_rfl
theorem ze83 : (Tryz.prog.info? 65).bind (·.zero) = some (.agg #[.bool false, .bool false]) := by kernel_rfl
theorem si83 : (Tryz.prog.info? 65).map (·.size) = some 2 := by kernel_rfl
theorem bu83 (a b : Bool) : Tryz.prog.built 65 [(0, .bool a), (1, .bool b)] = some [.bool a, .bool b].toArray := by kernel_rfl
theorem config_calls {w : World} (fr dv : Bool) : Calls Tryz.prog 40 #[.bool fr, .bool dv] w fun e w' => e = .returned (.agg #[.bool (!fr), .bool (!dv)]) ∧ Below w.heap.size w w' := by
  refine enter (fun _ => False) 10 [] Tryz.func40 rfl rfl rfl (vs := [.bool fr, .bool dv]) (Has.nil _) ?_
  conv => arg 2; arg 2; whnf
  repeat' (first | refine cseq ?_ | refine rtext ?_ | refine cret ?_ | refine jnil ?_ | (first | refine jmv rfl rfl rfl ?_ | (show Jo _ (.store _ _ _); refine jstores (i := 0) rfl rfl rfl rfl rfl si83 (.inr hg4) ?_) | refine jy (ynot rfl rfl) rfl rfl ?_ | (show Jo _ (.alloc _); refine jalloc ze83 rfl (fun g4 hg4 => ?_)) | (show Jo _ (.build _ _); refine jy (ybuild rfl (bu83 (!fr) (!dv))) rfl rfl ?_)))
  exact retcP (i := 0) rfl rfl rfl rfl agg83 (fun w' hw' => ⟨rfl, hw'.2.below (fun k _ h => h) (Nat.le_refl _)⟩)
theorem ics_at {s : T} {G : Mem} : ∀ {l : List Itm} {cs : List Value}, ICS s G l cs → cs.length = 7 * l.length ∧ ∀ (j : Nat) it, l[j]? = some it → ItC s G it ((cs.drop (7 * j)).take 7) := by
  intro l cs h
  induction h with
  | nil => exact ⟨rfl, fun j it hj => by simp at hj⟩
  | @cons it c its cs h1 _ ih =>
    have hc : c.length = 7 := by obtain ⟨er, sg, rfl, _⟩ := h1; rfl
    refine ⟨by rw [List.length_append, hc, ih.1, List.length_cons]; omega, fun j it' hj => ?_⟩
    cases j with
    | zero =>
      obtain rfl : it = it' := by simpa using hj
      rw [Nat.mul_zero, List.drop_zero, List.take_append_of_le_length (by omega), List.take_of_length_le (by omega)]
      exact h1
    | succ j =>
      have := ih.2 j it' (by simpa using hj)
      rw [show 7 * (j + 1) = c.length + 7 * j by omega, ← List.drop_drop, List.drop_left]
      exact this
theorem itW_of {w : World} {s : T} {G : Mem} {it : Itm} {c : List Value} (h : ItC s G it c) (hG : ∀ x ∈ G, BlkAt w x.1 x.2.1 x.2.2) : ItW w s it c := by
  obtain ⟨er, sg, h1, h2, h3, h4⟩ := h
  refine ⟨er, sg, h1, ?_, ?_⟩
  · cases he : it.err
    · exact .inl ⟨rfl, h2 he⟩
    · exact .inr ⟨rfl, h3 he⟩
  · rcases h4 with h4 | ⟨g, cap, rr, h5, h6, h7⟩
    · exact .inl h4
    · refine .inr ⟨⟨g, 0, none⟩, cap, h5, h6, fun j u hj => ?_⟩
      have hb : w.heap[g]? = some (.cells (segC it.segs ++ rr).toArray 97 (0, 0)) := hG _ h7
      rw [add_lit]
      simp only [World.cell?, hb]
      rw [List.getElem?_toArray, List.getElem?_append_left (List.getElem?_eq_some_iff.1 hj).1, hj]
      simp
theorem bo38 : bodyB Tryz.prog 34 = true := by kernel_rfl
theorem gr24 : growB Tryz.prog 25 51 5 40 = true := by kernel_rfl
theorem und77 : Tryz.prog.underlying 59 = some (.slice 70) := by kernel_rfl
theorem sz88 : szB Tryz.prog 70 7 = true := by kernel_rfl
theorem ze88' : (Tryz.prog.info? 70).bind (·.zero) = some (.agg zItm.toArray) := by kernel_rfl
theorem si88 : (Tryz.prog.info? 70).map (·.size) = some 7 := by kernel_rfl
def tisC (s : T) (l : List Itm) : List Value := l.flatMap fun it => tiC (toldI envT s it)
theorem tisC_take {s : T} {l : List Itm} {j : Nat} {it : Itm} (h : l[j]? = some it) : tisC s (l.take (j + 1)) = tisC s (l.take j) ++ tiC (toldI envT s it) := by
  obtain ⟨hlt, he⟩ := List.getElem?_eq_some_iff.1 h
  unfold tisC
  rw [← List.take_append_getElem hlt, List.flatMap_append, he]
  simp
theorem tiC_one (t : Ti) : ∀ u ∈ tiC t, u.oneCell' = true := by
  intro u hu
  simp only [tiC, List.mem_cons, List.not_mem_nil, or_false] at hu
  rcases hu with rfl | rfl | rfl | rfl | rfl <;> rfl
set_option maxHeartbeats 2000000 in
theorem items_calls {X : Cx} {H1 : Hd} (fr dv : Bool) (hnf : H1.nf = !fr) (hnd : H1.nd = !dv) (hW : ∃ W, Bs W X ∧ Tab W) (hsz : H1.s.length ≤ H1.cap) (hbig : H1.s.length ≤ 4294967296) {E : Mem} (l : List Itm) (hl : l = parse envT H1.s fr dv) (hll : l.length ≤ 1000000000000) (hin : ∀ it ∈ l, InI H1.s it) : ∀ w, Cl X (iB H1 :: E) w →
    Calls Tryz.prog 34 #[.slice (some ⟨H1.gI, 0, none⟩) H1.s.length H1.cap, .bool fr, .bool dv] w fun e w' => ∃ r : Row, e = .returned (r.val l.length) ∧ Cl X (r.mem (tisC H1.s l) 51) w' ∧ r.ok X.w0.heap.size 5 l.length (tisC H1.s l) := by
  intro w hw
  refine enterC 34 hw Tryz.func34 rfl rfl (vs := [.slice (some ⟨H1.gI, 0, none⟩) H1.s.length H1.cap, .bool fr, .bool dv]) rfl ?_
  have hWs : ∃ W, Bs W (X.sub 34 w) ∧ Tab W := by
    obtain ⟨W, h1, h2⟩ := hW
    exact ⟨W, h1.sub hw 34, h2⟩
  have hp55 : ∀ w', Cl (X.sub 34 w) (iB H1 :: E) w' → Calls Tryz.prog 39 #[.slice (some ⟨H1.gI, 0, none⟩) H1.s.length H1.cap, .agg #[.bool (!fr), .bool (!dv)]] w' fun e w'' => ∃ p : Hd × RI, e = .returned (.tuple #[p.2.q.val, .nilIface]) ∧ Cl (X.sub 34 w) (psM p) w'' ∧ PsdOk (X.sub 34 w) H1 l p := fun w' hw' => by
    have := parse55_calls (X := X.sub 34 w) (H1 := H1) hWs hsz hbig w' hw'
    rw [hnf, hnd, Bool.not_not, Bool.not_not, ← hl] at this
    exact this
  conv => arg 2; arg 2; whnf
  repeat' ((fail_if_success (show PJ _ (Code.wp _ (Code.seq (Code.region 3 _ _) _) _) _ _)); first | first | refine cseq ?_ | refine rtext ?_ | refine jnil ?_ | (first | refine jmv rfl rfl rfl ?_ | refine jas_ rfl rfl rfl ?_ | (show Jo _ (.call _); first | (show Jo _ (.call ⟨.value (.func 40), _, _⟩); refine jcallq bo56 rfl rfl rfl (quietC fun w' hw' => config_calls fr dv) ?_) | (show Jo _ (.call ⟨.value (.func 39), _, _⟩); refine jcall (ι := Hd × RI) (vs := [.slice (some ⟨H1.gI, 0, none⟩) H1.s.length H1.cap, .agg #[.bool (!fr), .bool (!dv)]]) _ bo55 rfl rfl rfl hp55 (fun p hp => ?_))) | (show Jo _ (.extract _ _); refine jy (yextractL rfl rfl) rfl rfl ?_)))
  have hqn : p.2.q.n = l.length := by rw [hp.st.n, hp.it]
  have hqv : p.2.q.val = .slice (some ⟨p.2.q.gR, 0, none⟩) l.length p.2.q.cap := by rw [← hqn]; rfl
  rw [hqv]
  obtain ⟨hcl, hat⟩ := ics_at hp.st.ics
  rw [hp.it] at hcl hat
  repeat' ((fail_if_success (show PJ _ (Code.wp _ (Code.loop _) _) _ _)); first | first | refine cseq ?_ | refine rtext ?_ | refine cblk ?_ | refine jnil ?_ | (first | refine jmv rfl rfl rfl ?_ | (show Jo _ (.call _); ((show Jo _ (.call ⟨.builtin .len, _, _⟩); refine jy (ylenl rfl und77) rfl rfl ?_)))))
  refine fin (f' := [(0, .slice (some ⟨H1.gI, 0, none⟩) H1.s.length H1.cap), (9, (Row.nil).val 0), (20, .slice (some ⟨p.2.q.gR, 0, none⟩) l.length p.2.q.cap), (21, .int .i64 l.length), (22, .int .i64 (0 : Nat))]) (m' := psM p ++ (Row.nil).mem (tisC H1.s (l.take 0)) 51)
    (cloop (ι := Nat × Row) (fun i => [(0, .slice (some ⟨H1.gI, 0, none⟩) H1.s.length H1.cap), (9, i.2.val i.1), (20, .slice (some ⟨p.2.q.gR, 0, none⟩) l.length p.2.q.cap), (21, .int .i64 l.length), (22, .int .i64 (i.1 : Nat))]) (fun i => psM p ++ i.2.mem (tisC H1.s (l.take i.1)) 51)
      (fun n i => n = l.length - i.1 ∧ i.1 ≤ l.length ∧ i.2.ok X.w0.heap.size 5 i.1 (tisC H1.s (l.take i.1)) ∧ i.2.may (X.sub 34 w)) l.length (0, .nil) ⟨rfl, Nat.zero_le _, ⟨rfl, rfl⟩, trivial⟩ ?_) ⟨rfl, rfl, rfl, rfl, rfl, trivial⟩ (by rw [show (Row.nil).mem (tisC H1.s (l.take 0)) 51 = [] from rfl, List.append_nil])
  rintro n ⟨j, r⟩ ⟨rfl, hj, hrok, hmr⟩ K hK
  dsimp only at hj hrok hmr ⊢
  by_cases hlt : j < l.length
  · obtain ⟨it, hit⟩ : ∃ it, l[j]? = some it := ⟨_, List.getElem?_eq_getElem hlt⟩
    have hItC := hat j it hit
    obtain ⟨cj, hcjd⟩ : ∃ cj, cj = (p.2.q.ics.drop (7 * j)).take 7 := ⟨_, rfl⟩
    rw [← hcjd] at hItC
    have hcj : ((p.2.q.ics ++ p.2.q.rr).drop (7 * j)).take 7 = cj := by
      rw [List.drop_append_of_le_length (by omega), List.take_append_of_le_length (by rw [List.length_drop]; omega), hcjd]
    have hble : Nat.ble (7 * j + 7) (p.2.q.ics ++ p.2.q.rr).length = true := Nat.ble_eq_true_of_le (by rw [List.length_append]; omega)
    have hone : cj.all (·.oneCell') = true := by
      obtain ⟨er, sg, h1, h2, h3, h4⟩ := hItC
      have he : er.oneCell' = true := by
        cases hb : it.err
        · rw [h2 hb]; rfl
        · obtain ⟨v, rfl⟩ := h3 hb; rfl
      have hs : sg.oneCell' = true := by rcases h4 with ⟨_, rfl⟩ | ⟨g, cap, rr, _, rfl, _⟩ <;> rfl
      rw [h1]
      unfold itC
      simp only [List.all_cons, List.all_nil, he, hs, Bool.true_and, Bool.and_true]
      rfl
    have hc7 : cj.length = 7 := by obtain ⟨er, sg, h1, _⟩ := hItC; rw [h1]; rfl
    have hk : ∀ r1 : Row, r1.ok X.w0.heap.size 5 (j + 1) (tisC H1.s (l.take j) ++ tiC (toldI envT H1.s it)) → r1.may (X.sub 34 w) → PJ (X.sub 34 w) K [(0, .slice (some ⟨H1.gI, 0, none⟩) H1.s.length H1.cap), (9, r1.val (j + 1)), (20, .slice (some ⟨p.2.q.gR, 0, none⟩) l.length p.2.q.cap), (21, .int .i64 l.length), (22, .int .i64 ((j + 1 : Nat) : Int))] (psM p ++ r1.mem (tisC H1.s (l.take j) ++ tiC (toldI envT H1.s it)) 51) := fun r1 g1 g2 => by
      have := hK (l.length - (j + 1)) (j + 1, r1) (by dsimp only; omega) ⟨rfl, hlt, by rw [tisC_take hit]; exact g1, g2⟩
      dsimp only at this
      rw [tisC_take hit] at this
      exact this
    have hpl : ∀ (bb : Nat × List Value × Bk) w', Cl (X.sub 34 w) (bb :: (psM p ++ r.mem (tisC H1.s (l.take j)) 51)) w' → Calls Tryz.prog 41 #[.agg cj.toArray, .slice (some ⟨H1.gI, 0, none⟩) H1.s.length H1.cap] w' fun e w'' => e = .returned (.agg (tiC (toldI envT H1.s it)).toArray) ∧ Below w'.heap.size w' w'' := fun bb w' hw' => by
      have hmem : iB H1 ∈ (bb :: (psM p ++ r.mem (tisC H1.s (l.take j)) 51)) := by
        rw [← hp.ib]
        exact .tail _ (.tail _ (.head _))
      have hGm : ∀ x ∈ p.2.G, BlkAt w' x.1 x.2.1 x.2.2 := fun x hx => hw'.1.blk x (List.mem_cons_of_mem _ (List.mem_append_left _ (.tail _ (.tail _ (.tail _ (.tail _ (.tail _ (List.mem_append_right _ hx))))))))
      have hT : Tab w' := by
        obtain ⟨W, h1, h2⟩ := hWs
        exact h2.below (h1.w hw')
      have hIW := itW_of (w := w') hItC hGm
      rw [hp.hs] at hIW
      exact plain_calls hT (inp_byt hw'.1 hmem hsz) (hw'.1.lt hmem) hbig hIW (hin it (List.mem_of_getElem? hit))
    repeat' (first | refine cseq ?_ | refine rtext ?_ | refine ctrue rfl ?_ | refine cskip ?_ | refine cblk ?_ | refine tnorm ?_ | refine jnil ?_ | (first | refine jmv rfl rfl rfl ?_ | (show Jo _ (.load _ _); first | refine jy (yloads (i := 0) rfl rfl (by (rw [hc7]; exact ag88))) rfl rfl ?_ | refine jy (yloadp (i := 2) (n := 7) rfl rfl ag88 hble hcj) rfl rfl ?_) | refine jas_ rfl rfl rfl ?_ | (show Jo _ (.binOp _ _ _ _ _); first | (show Jo _ (.binOp .add _ _ _ _); refine jy (yadd (c := ((j + 1 : Nat) : Int)) rfl rfl (by rw [i64_in (by omega) (by omega)]; omega)) rfl rfl ?_) | refine jy (ylss rfl rfl (by (exact decide_eq_true (by omega)))) rfl rfl ?_) | (show Jo _ (.store _ _ _); (refine jstores (i := 0) rfl rfl rfl hc7.symm hone (by rw [hc7]; exact si88) (.inr hg11) ?_)) | (show Jo _ (.call _); first | (show Jo _ (.call ⟨.value (.func 41), _, _⟩); refine jcallq (vs := [.agg cj.toArray, .slice (some ⟨H1.gI, 0, none⟩) H1.s.length H1.cap]) bo57 rfl rfl rfl (quietC fun w' hw' => hpl _ w' hw') ?_) | (show Jo _ (.call ⟨.builtin .append, _, _⟩); refine jappendP (k := 1) (r := r) (B := X.w0.heap.size) (xs := tisC H1.s (l.take j)) (news := tiC (toldI envT H1.s it)) (_ :: _ :: psM p) (fun r' => _ :: _ :: (psM p ++ r'.mem (tisC H1.s (l.take j) ++ tiC (toldI envT H1.s it)) 51)) (List.Perm.refl _) (fun r' => List.Perm.refl _) rfl rfl (src_blk (i := 0) 0 rfl (add_zero _) (fun j u hj => by rw [Nat.zero_add]; exact hj)) rfl (tiC_one _) hrok hw.2.size hmr gr24 (by omega) (by simp only [maxLen]; omega) (by omega) rfl (fun r1 hr1 hmr1 => ?_))) | (show Jo _ (.alloc _); refine jalloc ze88' rfl (fun g11 hg11 => ?_)) | (show Jo _ (.indexAddr 59 _ _); refine jy (yatb (o' := 7 * j) rfl rfl und77 sz88 (by omega) (by omega) (by omega)) rfl rfl ?_) | (show Jo _ (.buildSlice _ _ _); refine jlitN (n := 1) (vs := [.agg (tiC (toldI envT H1.s it)).toArray]) (c := tiC (toldI envT H1.s it)) rfl rfl rfl rfl gr24 rfl rfl rfl rfl (fun gl hgl => ?_))))
    exact finS (hk r1 hr1 hmr1) ⟨rfl, rfl, rfl, rfl, rfl, trivial⟩ ((List.sublist_cons_self _ _).trans (List.sublist_cons_self _ _))
  · obtain rfl : j = l.length := by omega
    rw [List.take_length] at *
    repeat' (first | refine cseq ?_ | refine rtext ?_ | refine cfalse rfl ?_ | refine cret ?_ | refine cexit ?_ | refine jnil ?_ | (first | refine jmv rfl rfl rfl ?_ | refine jas_ rfl rfl rfl ?_ | (show Jo _ (.binOp _ _ _ _ _); refine jy (ylss rfl rfl (by (exact decide_eq_false (by omega)))) rfl rfl ?_)))
    exact ret1 rfl rfl rfl (fun w' hw' => ⟨r, rfl, (hw.up hw').less (List.sublist_append_right _ _), hrok⟩)
end Go.Proofs.YtkehggbmpdacpacGreatDoor.Pg
