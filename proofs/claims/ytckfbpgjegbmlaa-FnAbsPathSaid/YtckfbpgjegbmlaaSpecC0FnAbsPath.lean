/- What the reference's pathClean answers: the documentation's rules (the printed functions of one statement). -/
import Derived.Test.YtckfbpgjegbmlaaPFnAbsPathx2
import Derived.Test.YtckfbpgjegbmlaaClean0
import Derived.Test.YtckfbpgjegbmlaaFf0FnAbsPath
import Derived.Test.YtckfbpgjegbmlaaSpecA0FnAbsPath
set_option linter.unusedVariables false
namespace Go.Proofs.Ytckfbpgjegbmlaa.SpecC0FnAbsPath
open Go.RowKit Go.Proofs.Ytckfbpgjegbmlaa.PFnAbsPath Go.Proofs.YtckfbpgjegbmlaaW.PrintWords Go.Proofs.YtckfbpgjegbmlaaW.PrintLast Go.Proofs.Ytckfbpgjegbmlaa.Lib0 Go.Proofs.Ytckfbpgjegbmlaa Go.Proofs.Ytckfbpgjegbmlaa.Trim0 Go.Proofs.Ytckfbpgjegbmlaa.Flds0 Go.Proofs.Ytckfbpgjegbmlaa.Clean0 Go.Proofs.Ytckfbpgjegbmlaa.Ff0FnAbsPath Go.Proofs.Ytckfbpgjegbmlaa.SpecA0FnAbsPath Go.Lib.Pa

theorem rooted_is (s : ByteArray) : Clean0.rooted s.data.toList = decide (Trim0.Ahead s) := by
  unfold Clean0.rooted
  by_cases h : 0 < s.size
  · obtain ⟨c, l, e, hc, _⟩ := first_of s h
    rw [e]
    by_cases q : c = 47
    · have : Trim0.Ahead s := ⟨h, hc.2 q⟩
      simp [q, this]
    · have : ¬ Trim0.Ahead s := fun x => q (hc.1 x.2)
      simp [q, this]
  · have e : s.data.toList = [] := List.eq_nil_of_length_eq_zero (by rw [size_len]; omega)
    have : ¬ Trim0.Ahead s := fun x => h x.1
    rw [e]; simp [this]

theorem list_nil (x : ByteArray) : (x.toList = ([] : List UInt8)) ↔ x.data.toList = [] := by rw [list_eq]

theorem join_le : ∀ ps : List (List UInt8), (Clean0.join ps).length ≤ total ps
  | [] => by simp [Clean0.join, List.intercalate]
  | [x] => by rw [join_one]; simp [total]
  | x :: y :: r => by
    have ih := join_le (y :: r)
    have e : Clean0.join (x :: y :: r) = x ++ 47 :: Clean0.join (y :: r) := by
      unfold Clean0.join
      simp [List.intercalate, List.intersperse_cons_cons]
    rw [e]
    simp only [total, List.length_append, List.length_cons] at ih ⊢
    omega

theorem len_total (ps : List (List UInt8)) : ps.length ≤ total ps := by
  induction ps with
  | nil => simp [total]
  | cons f ps ih => simp only [List.length_cons, total]; omega

theorem sc_join (s : ByteArray) (P : List ByteArray) (hB : total (datas P) ≤ 400000) : ∀ (d j : Nat) (x : ByteArray), P.length - j = d → j ≤ P.length → x.data.toList = Clean0.join ((datas P).take j) →
    Ev (fun k => spec_pathClean.l1 k s P x (j : Int)) (ofL (asPath (Clean0.rooted s.data.toList) (Clean0.join (datas P)))) := by
  have hlen : (datas P).length = P.length := by simp [datas]
  have hlt := len_total (datas P)
  intro d
  induction d with
  | zero =>
    intro j x hd hj hx
    have hj' : j = P.length := by omega
    have hxx : x.data.toList = Clean0.join (datas P) := by rw [hx, List.take_of_length_le (by omega)]
    have hz : x.size ≤ 400000 := by
      have := join_le (datas P)
      rw [← hxx, size_len] at this
      omega
    rw [← hxx, rooted_is]
    have b1 : ¬ (j : Int) < (P.length : Int) := by omega
    have b2 : 1 + x.size ≤ 9223372036854775807 := by omega
    by_cases ha : Trim0.Ahead s
    · have e : ofL (asPath (decide (Trim0.Ahead s)) x.data.toList) = stSl ++ x := by
        apply bytes_ext; rw [ofL_data, data_app, stSl_list]; simp [asPath, ha]
      rw [e]
      refine Ev.step (f := fun _ => some (stSl ++ x)) (fun k => ?_) (Ev.now _)
      simp only [spec_pathClean.l1, if_neg b1, sp_ahead, Option.bind_some, ha, decide_true, if_true, if_pos b2]
      rfl
    · by_cases h0 : x.data.toList = []
      · have e : ofL (asPath (decide (Trim0.Ahead s)) x.data.toList) = (⟨#[46]⟩ : ByteArray) := by
          apply bytes_ext; rw [ofL_data]; simp [asPath, ha, h0]
        rw [e]
        refine Ev.step (f := fun _ => some (⟨#[46]⟩ : ByteArray)) (fun k => ?_) (Ev.now _)
        have b3 : x.toList = ([] : List UInt8) := (list_nil x).2 h0
        simp only [spec_pathClean.l1, if_neg b1, sp_ahead, Option.bind_some, ha, decide_false, Bool.false_eq_true, if_false, if_pos b3]
      · have e : ofL (asPath (decide (Trim0.Ahead s)) x.data.toList) = x := by
          apply bytes_ext; rw [ofL_data]; simp only [asPath, ha, decide_false, Bool.false_eq_true, if_false, if_neg h0]
        rw [e]
        refine Ev.step (f := fun _ => some x) (fun k => ?_) (Ev.now _)
        have b3 : ¬ x.toList = ([] : List UInt8) := fun q => h0 ((list_nil x).1 q)
        simp only [spec_pathClean.l1, if_neg b1, sp_ahead, Option.bind_some, ha, decide_false, Bool.false_eq_true, if_false, if_neg b3]
  | succ d ih =>
    intro j x hd hj hx
    have hlt2 : j < P.length := by omega
    have hj2 : j < (datas P).length := by omega
    have er : (rdOf ByteArray.empty P (j : Int)).data.toList = (datas P)[j] := by
      unfold rdOf
      rw [show ((j : Int)).toNat = j from rfl, getD_in _ _ _ hlt2]
      simp [datas]
    generalize hq : rdOf ByteArray.empty P (j : Int) = f at er
    have tk : (datas P).take (j + 1) = (datas P).take j ++ [f.data.toList] := by rw [List.take_succ_eq_append_getElem hj2, er]
    have t1 : total ((datas P).take j) + total ((datas P).drop j) = total (datas P) := by rw [← total_app, List.take_append_drop]
    have t2 : f.data.toList.length + 1 ≤ total ((datas P).drop j) := by rw [List.drop_eq_getElem_cons hj2, ← er]; simp only [total]; omega
    have xz : x.size ≤ total ((datas P).take j) := by rw [← size_len, hx]; exact join_le _
    rw [size_len] at t2
    have b1 : (j : Int) < (P.length : Int) := by omega
    have b2 : (0 : Int) ≤ (j : Int) := by omega
    by_cases h0 : j = 0
    · subst h0
      have res := ih 1 (x ++ f) (by omega) (by omega) (by
        rw [data_app, hx, tk, List.take_zero, List.nil_append, join_one]; first | done | rfl | simp [Clean0.join, List.intercalate])
      refine Ev.step (fun k => ?_) res
      have b3 : ¬ (((0 : Nat) : Int)) > 0 := by omega
      have b4 : x.size + f.size ≤ 9223372036854775807 := by omega
      have w1 : wrap64 (((0 : Nat) : Int) + 1) = ((1 : Nat) : Int) := by rw [wrap_id _ (by omega)]; rfl
      simp only [spec_pathClean.l1, if_pos b1, if_neg b3, if_pos b2, hq, if_pos b4, w1]
    · have hne : (datas P).take j ≠ [] := fun e => by
        have : ((datas P).take j).length = 0 := by rw [e]; rfl
        rw [List.length_take] at this; omega
      have z0 : (⟨#[47]⟩ : ByteArray).size = 1 := rfl
      have z1 : (x ++ (⟨#[47]⟩ : ByteArray)).size = x.size + 1 := by rw [app_size, z0]
      have res := ih (j + 1) ((x ++ (⟨#[47]⟩ : ByteArray)) ++ f) (by omega) (by omega) (by
        rw [data_app, data_app, hx, tk, join_snoc _ _ hne, List.append_assoc]; rfl)
      refine Ev.step (fun k => ?_) res
      have b3 : (j : Int) > 0 := by omega
      have b4 : x.size + 1 ≤ 9223372036854775807 := by omega
      have b5 : (x ++ (⟨#[47]⟩ : ByteArray)).size + f.size ≤ 9223372036854775807 := by omega
      have w1 : wrap64 ((j : Int) + 1) = ((j + 1 : Nat) : Int) := by rw [wrap_id _ (by omega)]; rfl
      simp only [spec_pathClean.l1, if_pos b1, if_pos b3, if_pos b4, if_pos b2, hq, if_pos b5, w1]

theorem two_dots : (⟨#[46, 46]⟩ : ByteArray).data.toList = [46, 46] := rfl

theorem sc_loop (s : ByteArray) (F : List ByteArray) (hFl : F.length ≤ 400000) (hF : ∀ f ∈ datas F, f ≠ []) : ∀ (d i : Nat) (P : List ByteArray), F.length - i = d → i ≤ F.length → total (datas P) + total (datas (F.drop i)) ≤ 400000 →
    (Trim0.Ahead s → ∀ x ∈ datas P, x ≠ [46, 46]) →
    Ev (fun k => spec_pathClean.l0 k s P F (i : Int)) (ofL (asPath (Clean0.rooted s.data.toList) (Clean0.join ((datas (F.drop i)).foldl (cleanStep (Clean0.rooted s.data.toList)) (datas P).reverse).reverse))) := by
  intro d
  induction d with
  | zero =>
    intro i P hd hi hB hr
    have hi' : F.drop i = [] := List.drop_eq_nil_of_le (by omega)
    rw [hi'] at hB ⊢
    have b1 : ¬ (i : Int) < (F.length : Int) := by omega
    have res := sc_join s P (by simp [datas, total] at hB ⊢; exact hB) P.length 0 (⟨#[]⟩ : ByteArray) (by omega) (by omega) rfl
    show Ev _ (ofL (asPath _ (Clean0.join ((datas P).reverse).reverse)))
    rw [List.reverse_reverse]
    refine Ev.step (fun k => ?_) res
    simp only [spec_pathClean.l0, if_neg b1]
    rfl
  | succ d ih =>
    intro i P hd hi hB hr
    have hlt : i < F.length := by omega
    have hdr : F.drop i = F[i] :: F.drop (i + 1) := List.drop_eq_getElem_cons hlt
    have er : rdOf ByteArray.empty F (i : Int) = F[i] := by
      unfold rdOf
      rw [show ((i : Int)).toNat = i from rfl, getD_in _ _ _ hlt]
    have hfe : F[i].data.toList ≠ [] := hF _ (by unfold datas; exact List.mem_map.2 ⟨F[i], List.getElem_mem hlt, rfl⟩)
    generalize hg : F[i] = f at er hdr hfe
    have hds : datas (F.drop i) = f.data.toList :: datas (F.drop (i + 1)) := by rw [hdr]; rfl
    rw [hds] at hB ⊢
    rw [List.foldl_cons]
    simp only [total] at hB
    have hPl : P.length ≤ total (datas P) := by have := len_total (datas P); simpa [datas] using this
    have b1 : (i : Int) < (F.length : Int) := by omega
    have b2 : (0 : Int) ≤ (i : Int) := by omega
    have b4 : P.length < 8796093022208 := by omega
    have w1 : ∀ q : Unit, wrap64 ((i : Int) + 1) = ((i + 1 : Nat) : Int) := fun _ => by rw [wrap_id _ (by omega)]; rfl
    have ap : ∀ g : ByteArray, datas (P ++ [g]) = datas P ++ [g.data.toList] := fun g => by simp [datas]
    have apr : ∀ g : ByteArray, (datas (P ++ [g])).reverse = g.data.toList :: (datas P).reverse := fun g => by rw [ap]; simp
    by_cases h1 : f.data.toList = [46]
    · have st : cleanStep (Clean0.rooted s.data.toList) (datas P).reverse f.data.toList = (datas P).reverse := by unfold cleanStep; rw [if_pos (Or.inr h1)]
      rw [st]
      have res := ih (i + 1) P (by omega) (by omega) (by omega) hr
      refine Ev.step (fun k => ?_) res
      have c1 : f.toList = ([46] : List UInt8) := by rw [list_eq]; exact h1
      simp only [spec_pathClean.l0, if_pos b1, if_pos b2, er, if_pos c1, w1 ()]
    have c1 : ¬ f.toList = ([46] : List UInt8) := by rw [list_eq]; exact h1
    by_cases h2 : f.data.toList = [46, 46]
    · have c2 : f.toList = ([46, 46] : List UInt8) := by rw [list_eq]; exact h2
      have nst : ¬ (f.data.toList = [] ∨ f.data.toList = [46]) := fun x => x.elim hfe h1
      have fz : f.size = 2 := by rw [← size_len, h2]; rfl
      -- what follows where nothing is taken away
      have up : ((datas P).reverse = [] ∨ ∃ r, (datas P).reverse = [46, 46] :: r) → Ev (fun k => spec_pathClean.j1 k s P F (i : Int) false) (ofL (asPath (Clean0.rooted s.data.toList) (Clean0.join ((datas (F.drop (i + 1))).foldl (cleanStep (Clean0.rooted s.data.toList)) (cleanStep (Clean0.rooted s.data.toList) (datas P).reverse f.data.toList)).reverse))) := by
        intro hc
        by_cases ha : Trim0.Ahead s
        · have hnil : (datas P).reverse = [] := by
            rcases hc with h | ⟨r, h⟩
            · exact h
            · exact absurd rfl (hr ha [46, 46] (by rw [← List.mem_reverse, h]; exact List.mem_cons_self))
          have hP : P = [] := by
            have : (datas P).length = 0 := by rw [← List.length_reverse, hnil]; rfl
            exact List.eq_nil_of_length_eq_zero (by simpa [datas] using this)
          have st : cleanStep (Clean0.rooted s.data.toList) (datas P).reverse f.data.toList = (datas P).reverse := by
            unfold cleanStep; rw [if_neg nst, if_pos h2, hnil, rooted_is]; simp [ha]
          rw [st]
          have res := ih (i + 1) P (by omega) (by omega) (by omega) hr
          refine Ev.step (fun k => ?_) res
          simp only [spec_pathClean.j1, Bool.false_eq_true, if_false, sp_ahead, Option.bind_some, ha, decide_true, if_true, w1 ()]
        · have st : cleanStep (Clean0.rooted s.data.toList) (datas P).reverse f.data.toList = [46, 46] :: (datas P).reverse := by
            unfold cleanStep; rw [if_neg nst, if_pos h2, rooted_is]
            rcases hc with h | ⟨r, h⟩
            · rw [h]; simp [ha, h2]
            · rw [h]; simp [h2]
          rw [st]
          have e2 := apr (⟨#[46, 46]⟩ : ByteArray)
          rw [two_dots] at e2
          rw [← e2]
          have res := ih (i + 1) (P ++ [(⟨#[46, 46]⟩ : ByteArray)]) (by omega) (by omega) (by rw [ap, total_app, two_dots]; simp only [total, List.length_cons, List.length_nil]; rw [size_len, fz] at hB; omega) (fun x => absurd x ha)
          refine Ev.step (fun k => ?_) res
          simp only [spec_pathClean.j1, Bool.false_eq_true, if_false, sp_ahead, Option.bind_some, ha, decide_false, if_pos b4, w1 ()]
      by_cases h3 : P.length = 0
      · have hP : P = [] := List.eq_nil_of_length_eq_zero h3
        have res := up (Or.inl (by rw [hP]; rfl))
        refine Ev.step (fun k => ?_) res
        have c3 : ¬ (P.length : Int) > 0 := by omega
        simp only [spec_pathClean.l0, if_pos b1, if_pos b2, er, if_neg c1, if_pos c2, if_neg c3]
      · have c3 : (P.length : Int) > 0 := by omega
        have c4 : (0 : Int) ≤ (P.length : Int) - 1 := by omega
        have c5 : (P.length : Int) - 1 < (P.length : Int) := by omega
        have c6 : (P.length : Int) - 1 ≤ (P.length : Int) := by omega
        have w2 : wrap64 ((P.length : Int) - 1) = (P.length : Int) - 1 := wrap_id _ (by omega)
        have hPi : P.length - 1 < P.length := by omega
        have hsp : P = P.take (P.length - 1) ++ [P[P.length - 1]] := by
          rw [← List.take_succ_eq_append_getElem hPi, show P.length - 1 + 1 = P.length by omega, List.take_length]
        have el : rdOf ByteArray.empty P ((P.length : Int) - 1) = P[P.length - 1] := by
          unfold rdOf
          rw [show ((P.length : Int) - 1).toNat = P.length - 1 by omega, getD_in _ _ _ hPi]
        generalize hgl : P[P.length - 1] = g at el hsp
        have hrev : (datas P).reverse = g.data.toList :: (datas (P.take (P.length - 1))).reverse := by
          conv => lhs; rw [hsp]
          simp [datas]
        by_cases h4 : g.data.toList = [46, 46]
        · have res := up (Or.inr ⟨_, by rw [hrev, h4]⟩)
          refine Ev.step (fun k => ?_) res
          have c7 : (g.toList != ([46, 46] : List UInt8)) = false := by rw [list_eq, h4]; rfl
          simp only [spec_pathClean.l0, if_pos b1, if_pos b2, er, if_neg c1, if_pos c2, if_pos c3, w2, if_pos c4, if_pos c5, el, c7]
        · have st : cleanStep (Clean0.rooted s.data.toList) (datas P).reverse f.data.toList = (datas (P.take (P.length - 1))).reverse := by
            unfold cleanStep; rw [if_neg nst, if_pos h2, hrev]
            simp only [if_neg h4]
          rw [st]
          have tp : total (datas (P.take (P.length - 1))) ≤ total (datas P) := by
            conv => rhs; rw [hsp]
            have : datas (P.take (P.length - 1) ++ [g]) = datas (P.take (P.length - 1)) ++ [g.data.toList] := by simp [datas]
            rw [this, total_app]; omega
          have res := ih (i + 1) (P.take (P.length - 1)) (by omega) (by omega) (by omega) (fun ha x hx => hr ha x (by
            unfold datas at hx ⊢
            obtain ⟨y, hy, rfl⟩ := List.mem_map.1 hx
            exact List.mem_map.2 ⟨y, List.mem_of_mem_take hy, rfl⟩))
          refine Ev.step (f := fun k => spec_pathClean.j1 k s P F (i : Int) true) (fun k => ?_) (Ev.step (fun k => ?_) res)
          · have c7 : (g.toList != ([46, 46] : List UInt8)) = true := by rw [list_eq]; simpa using h4
            simp only [spec_pathClean.l0, if_pos b1, if_pos b2, er, if_neg c1, if_pos c2, if_pos c3, w2, if_pos c4, if_pos c5, el, c7]
          · have c8 : ((P.length : Int) - 1).toNat = P.length - 1 := by omega
            simp only [spec_pathClean.j1, if_true, w2, if_pos c4, if_pos c6, c8, w1 ()]
    · have c2 : ¬ f.toList = ([46, 46] : List UInt8) := by rw [list_eq]; exact h2
      have st : cleanStep (Clean0.rooted s.data.toList) (datas P).reverse f.data.toList = f.data.toList :: (datas P).reverse := by
        unfold cleanStep; rw [if_neg (fun x => x.elim hfe h1), if_neg h2]
      rw [st, ← apr]
      have res := ih (i + 1) (P ++ [f]) (by omega) (by omega) (by rw [ap, total_app]; simp only [total]; omega) (fun ha x hx => by
        rw [ap, List.mem_append] at hx
        rcases hx with hx | hx
        · exact hr ha x hx
        · rw [List.mem_singleton] at hx; subst hx; exact h2)
      refine Ev.step (fun k => ?_) res
      simp only [spec_pathClean.l0, if_pos b1, if_pos b2, er, if_neg c1, if_neg c2, if_pos b4, w1 ()]

theorem spec_clean (s : ByteArray) (hz : s.size ≤ 200000) : Ev (fun k => spec_pathClean.f k s) (ofL (cleanEls s.data.toList)) := by
  obtain ⟨F, hF, he⟩ := ff_tells s hz
  have ht := flds_total s.data.toList []
  rw [← he, size_len] at ht
  have hl := len_total (datas F)
  have hl2 : (datas F).length = F.length := by simp [datas]
  have res := sc_loop s F (by simp at ht; omega) (fun f hf => by rw [he] at hf; exact (flds_good _ _ (by simp) f hf).1) F.length 0 [] (by omega) (by omega) (by simp [datas, total] at ht ⊢; omega) (fun _ x hx => by simp [datas] at hx)
  rw [List.drop_zero, he] at res
  rw [clean_is]
  refine Ev.congr (f := fun k => (spec_FieldsSlash.f k s).bind fun t => spec_pathClean.l0 k s ([] : List ByteArray) t 0) (fun k => by unfold spec_pathClean.f; rfl) ?_
  exact Ev.bind (f := fun k t => spec_pathClean.l0 k s ([] : List ByteArray) t 0) hF res

end Go.Proofs.Ytckfbpgjegbmlaa.SpecC0FnAbsPath
