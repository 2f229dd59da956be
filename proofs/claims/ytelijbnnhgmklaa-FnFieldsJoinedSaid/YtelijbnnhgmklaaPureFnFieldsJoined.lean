/- FnFieldsJoined, the plain law: parts that are not empty, with any number of slashes between and around, are a path's fields; for all parts and numbers. -/
import Derived.Test.YtelijbnnhgmklaaPFnFieldsJoinedx2
import Derived.Test.YtelijbnnhgmklaaOwnFields
import Derived.Test.YtelijbnnhgmklaaFlds0
import Derived.Test.YtelijbnnhgmklaaSame0FnFieldsJoined
import Derived.Test.YtelijbnnhgmklaaHas0FnFieldsJoined
import Derived.Test.YtelijbnnhgmklaaFits0FnFieldsJoined
namespace Go.Proofs.Ytelijbnnhgmklaa.Pure
open Go.RowKit Go.Proofs.Ytelijbnnhgmklaa.PFnFieldsJoined Go.Proofs.YtelijbnnhgmklaaW.PrintWords Go.Proofs.YtelijbnnhgmklaaW.PrintLast Go.Proofs.Ytelijbnnhgmklaa.Lib0 Go.Proofs.Ytelijbnnhgmklaa.Flds0 Go.Proofs.Ytelijbnnhgmklaa.Same0FnFieldsJoined Go.Proofs.Ytelijbnnhgmklaa.Has0FnFieldsJoined Go.Proofs.Ytelijbnnhgmklaa.Fits0FnFieldsJoined

def sl : ByteArray := ⟨#[47]⟩
theorem sl_size : sl.size = 1 := rfl
theorem sl_lit : (⟨#[47]⟩ : ByteArray) = sl := rfl
theorem isSl_iff' (x : Nat) : isSl x = true ↔ x = 47 := by unfold isSl; simp; omega
theorem code_fields' (s : ByteArray) (hs : s.size ≤ 4294967296) : impl_FieldsSlash.f s = some (Lib.goFieldsP isSl s) := by
  unfold impl_FieldsSlash.f paths_FieldsSlash.f
  rw [if_pos hs]; rfl

theorem free_of (g : ByteArray) (h : ∀ j, ¬ HasAt g sl j) : 47 ∉ g.data.toList := by
  intro hm
  obtain ⟨i, hi, he⟩ := List.getElem_of_mem hm
  refine h i ((hasAt_byte g 47 i).2 ⟨by rw [← size_len]; exact hi, ?_⟩)
  rw [byte_at g i hi, he]

/-- what stands ahead of round i. -/
def Ahead (D : List (List UInt8)) (i : Nat) (s : List UInt8) : Prop :=
  (∀ j (hj : j < D.length), j < i → D[j] ≠ [] ∧ 47 ∉ D[j]) ∧ (i = 0 → Stands s [] []) ∧ (0 < i → i ≤ D.length → Stands s (D.take (i - 1)) (D.getD (i - 1) [])) ∧ (D.length < i → flds s [] = D)
/-- .. behind some slashes. -/
def Open (D : List (List UInt8)) (i : Nat) (s : List UInt8) : Prop := Stands s (D.take i) []

theorem Ahead.slash {D : List (List UInt8)} {i : Nat} {s : List UInt8} (h : Ahead D i s) (hi : i ≤ D.length) : Open D i (s ++ [47]) := by
  unfold Open
  by_cases h0 : i = 0
  · subst h0
    have := (h.2.1 rfl).slash
    simpa [fpart] using this
  · have h1 := (h.2.2.1 (by omega) hi).slash
    have hj : i - 1 < D.length := Nat.lt_of_lt_of_le (by omega : i - 1 < i) hi
    have g := h.1 (i - 1) hj (by omega)
    rw [getD_in _ _ _ hj] at h1
    unfold fpart at h1
    rw [if_neg g.1, ← List.take_succ_eq_append_getElem hj, show i - 1 + 1 = i by omega] at h1
    exact h1
theorem Open.slash {D : List (List UInt8)} {i : Nat} {s : List UInt8} (h : Open D i s) : Open D i (s ++ [47]) := by
  unfold Open at *
  have := Stands.slash h
  simpa [fpart] using this
theorem Ahead.ends {D : List (List UInt8)} {s : List UInt8} (h : Ahead D D.length s) : flds s [] = D := by
  by_cases h0 : D.length = 0
  · have e : D = [] := List.eq_nil_of_length_eq_zero h0
    subst e
    exact (h.2.1 rfl).ends
  · have h1 := (h.2.2.1 (by omega) (Nat.le_refl _)).ends
    have hj : D.length - 1 < D.length := by omega
    have g := h.1 _ hj (by omega)
    rw [getD_in _ _ _ hj] at h1
    unfold fpart at h1
    rw [if_neg g.1, ← List.take_succ_eq_append_getElem hj, show D.length - 1 + 1 = D.length by omega, List.take_length] at h1
    exact h1

theorem datas_get (l : List ByteArray) (i : Nat) (h : i < l.length) (h' : i < (datas l).length) : (datas l)[i] = l[i].data.toList := by simp [datas]
theorem datas_len (l : List ByteArray) : (datas l).length = l.length := by simp [datas]

theorem fj_outer (l : List ByteArray) (n : List Int) (hl : l.length ≤ 50) (hn : n.length = l.length + 1) (hw : ∀ x ∈ n, 0 ≤ x ∧ x ≤ 255) (hs : ∀ i : Int, (rdOf ByteArray.empty l i).size ≤ 2147483647) :
    ∀ (d i : Nat) (s : ByteArray), l.length + 1 - i = d → i ≤ l.length + 1 → s.size ≤ 1100 * i → Ahead (datas l) i s.data.toList → Ev (fun k => laws_FnFieldsJoined.l0 k l s n (n.length : Int) i) true := by
  intro d
  induction d with
  | zero =>
    intro i s hd hi hz ha
    have hi' : i = l.length + 1 := by omega
    have hall : flds s.data.toList [] = datas l := ha.2.2.2 (by rw [datas_len]; omega)
    have hsame : Lib.goFieldsP isSl s = l := datas_inj ((fields_are s isSl isSl_iff').trans hall)
    have c := code_fields' s (by omega)
    rw [hsame] at c
    refine Ev.step (f := fun k => (laws_sameTexts.f k l l).bind fun t => some t) (fun k => ?_) (Ev.bind (f := fun _ t => some t) (same_true l (by omega)) (Ev.now _))
    have b1 : ¬ (i : Int) < (n.length : Int) := by omega
    simp only [laws_FnFieldsJoined.l0, if_neg b1, c, Option.bind_some]
  | succ d ih =>
    intro i s hd hi hz ha
    have hlt : i < n.length := by omega
    -- behind the slashes
    have behind : ∀ (u : ByteArray) (K : Int), u.size ≤ 1100 * i + 4 → (i < l.length → Open (datas l) i u.data.toList) → (i = l.length → flds u.data.toList [] = datas l) → ∀ x49 : Int, ¬ x49 < K →
        Ev (fun k => laws_FnFieldsJoined.l1 k l u (i : Int) n (n.length : Int) (i : Int) K x49) true := by
      intro u K hu ho he x49 hx
      by_cases hm : i < l.length
      · have hj : i < (datas l).length := by rw [datas_len]; exact hm
        have er : (rdOf ByteArray.empty l (i : Int)).data.toList = (datas l)[i] := by
          unfold rdOf
          rw [show ((i : Int)).toNat = i from rfl, getD_in _ _ _ hm, datas_get l i hm hj]
        have gz := hs (i : Int)
        generalize hg : rdOf ByteArray.empty l (i : Int) = g at er gz
        have b1 : (i : Int) < (l.length : Int) := by omega
        have b2 : (0 : Int) ≤ (i : Int) := by omega
        by_cases g0 : g.toList = ([] : List UInt8)
        · refine Ev.step (f := fun _ => some true) (fun k => ?_) (Ev.now _)
          simp only [laws_FnFieldsJoined.l1, if_neg hx, if_pos b1, if_pos b2, hg, if_pos g0]
        obtain ⟨b, hb, ht, hf⟩ := has_tells g sl (by omega) (by rw [sl_size]; omega)
        refine Ev.step (f := fun k => (laws_has.f k g sl).bind fun t => if t = true then some true else if (g.size : Int) > 1000 then some true else if u.size + g.size ≤ 9223372036854775807 then laws_FnFieldsJoined.l0 k l (u ++ g) n (n.length : Int) (wrap64 ((i : Int) + 1)) else none) (fun k => ?_) ?_
        · simp only [laws_FnFieldsJoined.l1, if_neg hx, if_pos b1, if_pos b2, hg, if_neg g0, sl_lit]
        refine Ev.bind (f := fun k t => if t = true then some true else if (g.size : Int) > 1000 then some true else if u.size + g.size ≤ 9223372036854775807 then laws_FnFieldsJoined.l0 k l (u ++ g) n (n.length : Int) (wrap64 ((i : Int) + 1)) else none) hb ?_
        cases b with
        | true => simp only [if_true]; exact Ev.now _
        | false =>
          simp only [Bool.false_eq_true, if_false]
          by_cases g1 : (g.size : Int) > 1000
          · simp only [if_pos g1]; exact Ev.now _
          have b4 : u.size + g.size ≤ 9223372036854775807 := by omega
          simp only [if_neg g1, if_pos b4]
          have hfree : 47 ∉ g.data.toList := free_of g (hf rfl)
          have hne : g.data.toList ≠ [] := fun e => g0 (by rw [list_eq]; exact e)
          have hz2 : (u ++ g).size = u.size + g.size := app_size _ _
          have o := (ho hm).free hfree
          have next : Ahead (datas l) (i + 1) (u ++ g).data.toList := by
            refine ⟨fun j hj' hlt' => ?_, fun e => by omega, fun _ _ => ?_, fun e => by rw [datas_len] at e; omega⟩
            · by_cases q : j = i
              · subst q; rw [← er]; exact ⟨hne, hfree⟩
              · exact ha.1 j hj' (by omega)
            · rw [show i + 1 - 1 = i by omega, getD_in _ _ _ hj, ← er, data_app]
              rw [List.nil_append] at o
              exact o
          have res := ih (i + 1) (u ++ g) (by omega) (by omega) (by omega) next
          have w1 : wrap64 ((i : Int) + 1) = ((i + 1 : Nat) : Int) := by rw [wrap_id _ (by omega)]; rfl
          rw [w1]
          exact res
      · have hm' : i = l.length := by omega
        have b1 : ¬ (i : Int) < (l.length : Int) := by omega
        have next : Ahead (datas l) (i + 1) u.data.toList := by
          refine ⟨fun j hj' hlt' => ha.1 j hj' (by rw [datas_len] at hj'; omega), fun e => by omega, fun _ e => by rw [datas_len] at e; omega, fun _ => he hm'⟩
        have res := ih (i + 1) u (by omega) (by omega) (by omega) next
        refine Ev.step (fun k => ?_) res
        have w1 : wrap64 ((i : Int) + 1) = ((i + 1 : Nat) : Int) := by rw [wrap_id _ (by omega)]; rfl
        simp only [laws_FnFieldsJoined.l1, if_neg hx, if_neg b1, w1]
    -- some slashes are there
    have more : ∀ (e j : Nat) (u : ByteArray) (K : Nat), K - j = e → j ≤ K → K ≤ 4 → u.size ≤ 1100 * i + j → Open (datas l) i u.data.toList →
        Ev (fun k => laws_FnFieldsJoined.l1 k l u (i : Int) n (n.length : Int) (i : Int) (K : Int) (j : Int)) true := by
      intro e
      induction e with
      | zero =>
        intro j u K he hj hK hu ho
        refine behind u K (by omega) (fun _ => ho) (fun hm => ?_) j (by omega)
        have := Stands.ends ho
        rw [this, hm, ← datas_len, List.take_length]; simp [fpart]
      | succ e ihe =>
        intro j u K he hj hK hu ho
        have hz1 : (u ++ sl).size = u.size + 1 := by rw [app_size, sl_size]
        have o2 : Open (datas l) i (u ++ sl).data.toList := by rw [data_app]; exact ho.slash
        have res := ihe (j + 1) (u ++ sl) K (by omega) (by omega) hK (by omega) o2
        refine Ev.step (fun k => ?_) res
        have b1 : (j : Int) < (K : Int) := by omega
        have b2 : u.size + 1 ≤ 9223372036854775807 := by omega
        have w1 : wrap64 ((j : Int) + 1) = ((j + 1 : Nat) : Int) := by rw [wrap_id _ (by omega)]; rfl
        simp only [laws_FnFieldsJoined.l1, if_pos b1, sl_lit, if_pos b2, w1]
    -- from the first one on
    have slashes : ∀ K : Nat, K ≤ 4 → (0 < i → i < l.length → 0 < K) → Ev (fun k => laws_FnFieldsJoined.l1 k l s (i : Int) n (n.length : Int) (i : Int) (K : Int) 0) true := by
      intro K hK h1
      by_cases hK0 : K = 0
      · subst hK0
        refine behind s _ (by omega) (fun hm => ?_) (fun hm => ?_) 0 (by omega)
        · have : i = 0 := by
            rcases Nat.eq_zero_or_pos i with z | z
            · exact z
            · exact absurd (h1 z hm) (by omega)
          subst this
          exact ha.2.1 rfl
        · rw [hm, ← datas_len] at ha
          exact ha.ends
      · have hz1 : (s ++ sl).size = s.size + 1 := by rw [app_size, sl_size]
        have o2 : Open (datas l) i (s ++ sl).data.toList := by rw [data_app]; exact ha.slash (by rw [datas_len]; omega)
        have res := more (K - 1) 1 (s ++ sl) K rfl (by omega) hK (by omega) o2
        refine Ev.step (fun k => ?_) res
        have b1 : (0 : Int) < (K : Int) := by omega
        have b2 : s.size + 1 ≤ 9223372036854775807 := by omega
        have w1 : wrap64 ((0 : Int) + 1) = ((1 : Nat) : Int) := by rw [wrap_id _ (by omega)]; rfl
        simp only [laws_FnFieldsJoined.l1, if_pos b1, sl_lit, if_pos b2, w1]
    -- how many
    have hb : 0 ≤ rd n (i : Int) ∧ rd n (i : Int) ≤ 255 := by
      unfold rd
      rw [show ((i : Int)).toNat = i from rfl, getD_in _ _ _ hlt]
      exact hw _ (List.getElem_mem hlt)
    obtain ⟨q, hq, hq3⟩ : ∃ q : Nat, wrap64 (Int.tmod (rd n (i : Int)) 4) = (q : Int) ∧ q ≤ 3 := by
      refine ⟨(rd n (i : Int)).toNat % 4, ?_, by omega⟩
      rw [Int.tmod_eq_emod_of_nonneg hb.1, wrap_id _ (by omega)]
      omega
    have b1 : (i : Int) < (n.length : Int) := by omega
    have b2 : (0 : Int) ≤ (i : Int) := by omega
    by_cases hc : 0 < i ∧ i < l.length
    · have res := slashes (q + 1) (by omega) (fun _ _ => by omega)
      have b3 : (i : Int) > 0 := by omega
      have b4 : decide ((i : Int) < (l.length : Int)) = true := decide_eq_true (by omega)
      refine Ev.step (f := fun k => laws_FnFieldsJoined.j3 k l s (i : Int) (q : Int) n (n.length : Int) (i : Int) true) (fun k => ?_) (Ev.step (f := fun k => laws_FnFieldsJoined.j4 k l s (i : Int) ((q + 1 : Nat) : Int) n (n.length : Int) (i : Int)) (fun k => ?_) (Ev.step (fun k => ?_) res))
      · simp only [laws_FnFieldsJoined.l0, if_pos b1, if_pos b2, if_pos b3, b4, hq]
      · have w1 : wrap64 ((q : Int) + 1) = ((q + 1 : Nat) : Int) := by rw [wrap_id _ (by omega)]; rfl
        simp only [laws_FnFieldsJoined.j3, if_true, w1]
      · simp only [laws_FnFieldsJoined.j4]
    · have res := slashes q (by omega) (fun a b => absurd ⟨a, b⟩ hc)
      refine Ev.step (f := fun k => laws_FnFieldsJoined.j3 k l s (i : Int) (q : Int) n (n.length : Int) (i : Int) false) (fun k => ?_) (Ev.step (f := fun k => laws_FnFieldsJoined.j4 k l s (i : Int) (q : Int) n (n.length : Int) (i : Int)) (fun k => ?_) (Ev.step (fun k => ?_) res))
      · by_cases h0 : 0 < i
        · have b3 : (i : Int) > 0 := by omega
          have b4 : decide ((i : Int) < (l.length : Int)) = false := decide_eq_false (fun x => hc ⟨h0, by omega⟩)
          simp only [laws_FnFieldsJoined.l0, if_pos b1, if_pos b2, if_pos b3, b4, hq]
        · have b3 : ¬ (i : Int) > 0 := by omega
          simp only [laws_FnFieldsJoined.l0, if_pos b1, if_pos b2, if_neg b3, hq]
      · simp only [laws_FnFieldsJoined.j3, Bool.false_eq_true, if_false]
      · simp only [laws_FnFieldsJoined.j4]

theorem FnFieldsJoined (l : List ByteArray) (n : List Int) (hl : l.length ≤ 8796093022208) (hn : n.length ≤ 140737488355328) (hw : ∀ x ∈ n, 0 ≤ x ∧ x ≤ 255) :
    ∃ k, laws_FnFieldsJoined.f k l n = some true := by
  refine Ev.rounds ?_
  have j0t : Ev (fun k => laws_FnFieldsJoined.j0 k l n true) true := Ev.step (f := fun _ => some true) (fun k => by simp only [laws_FnFieldsJoined.j0, if_true]) (Ev.now _)
  have j1t : Ev (fun k => laws_FnFieldsJoined.j1 k l n true) true := Ev.step (f := fun _ => some true) (fun k => by simp only [laws_FnFieldsJoined.j1, if_true]) (Ev.now _)
  obtain ⟨b, hb, hsh⟩ := fits_tells l hl
  refine Ev.congr (f := fun k => (laws_zzFits3.f k l).bind fun t => if t = true then laws_FnFieldsJoined.j0 k l n (decide ((n.length : Int) > 2147483647)) else laws_FnFieldsJoined.j0 k l n true) (fun k => by unfold laws_FnFieldsJoined.f; rfl) ?_
  refine Ev.bind (f := fun k t => if t = true then laws_FnFieldsJoined.j0 k l n (decide ((n.length : Int) > 2147483647)) else laws_FnFieldsJoined.j0 k l n true) hb ?_
  cases b with
  | false => simp only [Bool.false_eq_true, if_false]; exact j0t
  | true =>
    simp only [if_true]
    have hs := (hsh rfl).2
    by_cases h1 : (n.length : Int) > 2147483647
    · rw [decide_eq_true h1]; exact j0t
    rw [decide_eq_false h1]
    by_cases c1 : (l.length : Int) > 50
    · refine Ev.step (fun k => ?_) j1t
      simp only [laws_FnFieldsJoined.j0, Bool.false_eq_true, if_false, if_pos c1]
    by_cases c2 : n.length = l.length + 1
    · have res := fj_outer l n (by omega) c2 hw hs (l.length + 1) 0 ByteArray.empty (by omega) (by omega) (by simp) ⟨fun j _ h => by omega, fun _ => by simpa using stands_nil, fun h => by omega, fun h => by omega⟩
      refine Ev.step (f := fun k => laws_FnFieldsJoined.j1 k l n false) (fun k => ?_) (Ev.step (fun k => ?_) res)
      · have w1 : wrap64 ((l.length : Int) + 1) = (n.length : Int) := by rw [wrap_id _ (by omega)]; omega
        have w2 : (((n.length : Nat) : Int) != (n.length : Int)) = false := by simp
        simp only [laws_FnFieldsJoined.j0, Bool.false_eq_true, if_false, if_neg c1, w1, w2]
      · simp only [laws_FnFieldsJoined.j1, Bool.false_eq_true, if_false]
        rfl
    · refine Ev.step (fun k => ?_) j1t
      have w2 : (((n.length : Nat) : Int) != wrap64 ((l.length : Int) + 1)) = true := by
        rw [wrap_id _ (by omega)]
        simp; omega
      simp only [laws_FnFieldsJoined.j0, Bool.false_eq_true, if_false, if_neg c1, w2]

end Go.Proofs.Ytelijbnnhgmklaa.Pure
