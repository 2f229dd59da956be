/- Laws of sanitized texts in plain words. No program. -/
import Derived.Test.YtflmkgkkjhphkaaDoorSan0
import Derived.Test.YtflmkgkkjhphkaaDoorTxt0
set_option linter.unusedVariables false
namespace Go.Proofs.YtflmkgkkjhphkaaDoor.San0
open Go Go.Lib Go.Proofs.YtflmkgkkjhphkaaDoor.Dec0 Go.Proofs.YtflmkgkkjhphkaaDoor.Txt0
def sanB (s : ByteArray) : ByteArray := if allStay (rs s.data.toList) = true then s else runesBytes (sanI (rs s.data.toList) none false)
theorem stay_space {c : Int} {r : List Int} (h : stay c r = true) : isSpaceZ c = false := by
  cases hs : isSpaceZ c
  · rfl
  · rw [space_stay hs r] at h; cases h
theorem san_all : ∀ (R : List Int) (last : Option Int), allStay R = true → san R last false = R
  | [], _, _ => rfl
  | c :: r, last, h => by
    rw [allStay, Bool.and_eq_true] at h
    rw [san, if_pos h.1, if_neg (by rw [stay_space h.1]; simp), san_all r (some c) h.2]
theorem sanI_san (R : List Int) : sanI R none false = san R none false := san_eq R none false
theorem sanB_eq {s : ByteArray} (h : runesBytes (rs s.data.toList) = s) : sanB s = runesBytes (san (rs s.data.toList) none false) := by
  unfold sanB
  split
  · rename_i ha
    rw [san_all _ _ ha]
    exact h.symm
  · rw [sanI_san]
theorem san_mem : ∀ (R : List Int) (last : Option Int) (sp : Bool) (z : Int), z ∈ san R last sp → z = 45 ∨ (z ∈ R ∧ ∃ r, stay z r = true)
  | [], _, _, z, h => by cases h
  | c :: r, last, sp, z, h => by
    rw [san] at h
    have ih := fun last sp hz => san_mem r last sp z hz
    have up : z = 45 ∨ (z ∈ r ∧ ∃ r, stay z r = true) → z = 45 ∨ (z ∈ c :: r ∧ ∃ r, stay z r = true) := fun h => h.imp id (fun h => ⟨List.mem_cons_of_mem _ h.1, h.2⟩)
    split at h
    · rename_i hs
      have hc : z = c → z = 45 ∨ (z ∈ c :: r ∧ ∃ r, stay z r = true) := fun e => .inr ⟨e ▸ List.mem_cons_self, r, e ▸ hs⟩
      split at h
      · rcases List.mem_cons.1 h with e | h
        · exact .inl e
        · rcases List.mem_cons.1 h with e | h
          · exact hc e
          · exact up (ih _ _ h)
      · rcases List.mem_cons.1 h with e | h
        · exact hc e
        · exact up (ih _ _ h)
    · exact up (ih _ _ h)
theorem hex_ldm {c : Int} (h : hexR c = true) : ldm c = true ∧ c ≠ 45 := by
  unfold hexR at h
  simp only [Bool.or_eq_true, Bool.and_eq_true, decide_eq_true_eq] at h
  have h0 := ldm_ascii ⟨c.toNat, by omega⟩
  dsimp only at h0
  rw [show ((c.toNat : Nat) : Int) = c by omega] at h0
  refine ⟨?_, by omega⟩
  rw [h0]
  simp
  omega
theorem san_first {c : Int} {r : List Int} {x : Int} (h : ldm c = true) : san (c :: r) (some x) false = c :: san r (some c) false := by
  have hs : stay c r = true := by unfold stay; rw [h]; rfl
  rw [san, if_pos hs, if_neg (by rw [stay_space hs]; simp)]
theorem stay_in {c : Int} {r : List Int} (h : stay c r = true) : stay c (san r (some c) false) = true := by
  unfold stay at h ⊢
  cases h1 : ldm c
  · cases h2 : sign c
    · rw [h1, h2] at h
      simp only [Bool.false_or, Bool.and_eq_true, beq_iff_eq] at h ⊢
      obtain ⟨rfl, h⟩ := h
      refine ⟨rfl, ?_⟩
      cases r with
      | nil => cases h
      | cons a r =>
        cases r with
        | nil => cases h
        | cons b r =>
          have h : (hexR a && hexR b) = true := h
          rw [Bool.and_eq_true] at h
          rw [san_first (hex_ldm h.1).1, san_first (hex_ldm h.2).1]
          show (hexR a && hexR b) = true
          rw [h.1, h.2]
          rfl
    · simp
  · simp
theorem stay_hyph (r : List Int) : stay 45 r = true := by unfold stay; rw [show sign 45 = true from rfl]; simp
theorem allStay_san : ∀ (R : List Int) (last : Option Int) (sp : Bool), allStay (san R last sp) = true
  | [], _, _ => rfl
  | c :: r, last, sp => by
    rw [san]
    split
    · rename_i hs
      have h1 : allStay (c :: san r (some c) false) = true := by rw [allStay, stay_in hs, allStay_san]; rfl
      split
      · rw [allStay, h1, stay_hyph]
        rfl
      · exact h1
    · exact allStay_san r last _
theorem R_hyph : isR 45 := by unfold isR; omega
theorem san_R {l : T} {last : Option Int} {sp : Bool} : ∀ z ∈ san (rs l) last sp, isR z := fun z hz => by
  rcases san_mem _ _ _ z hz with rfl | ⟨h, _⟩
  · exact R_hyph
  · exact rs_isR z h
theorem ens_list (l : List Int) : (runesBytes l).data.toList = ens l := by rw [runesBytes_ens]
theorem sanB_twice {s : ByteArray} (h : runesBytes (rs s.data.toList) = s) : sanB (sanB s) = sanB s := by
  rw [sanB_eq h]
  conv => lhs; unfold sanB
  rw [ens_list, rs_ens san_R, if_pos (allStay_san _ _ _)]
theorem hasT_one (k : UInt8) : ∀ l : T, hasT [k] l = l.any (· == k)
  | [] => rfl
  | c :: r => by
    rw [hasT, hasT_one k r]
    simp [Bool.beq_comm]
    cases hc : (k == c) <;> simp_all
theorem en_byte {z : Int} (hz : isR z) {b : UInt8} (hb : b ∈ en z) : (z < 128 ∧ z = (b.toNat : Int)) ∨ 128 ≤ b.toNat := by
  have h1 := hz.1
  have h2 := hz.2.1
  rcases en_cases hz with ⟨a, e⟩ | ⟨a, c, e⟩ | ⟨a, c, e⟩ | ⟨a, e⟩
  all_goals
    rw [e] at hb
    simp only [List.mem_cons, List.not_mem_nil, or_false] at hb
  · subst hb
    left
    rw [toNat_of (by omega)]
    omega
  · rcases hb with rfl | rfl <;> (right; rw [toNat_of (by omega)]; omega)
  · rcases hb with rfl | rfl | rfl <;> (right; rw [toNat_of (by omega)]; omega)
  · rcases hb with rfl | rfl | rfl | rfl <;> (right; rw [toNat_of (by omega)]; omega)
theorem sanB_no {s : ByteArray} (h : runesBytes (rs s.data.toList) = s) (k : UInt8) (hk : k.toNat < 128) (hw : isSpaceZ ((k.toNat : Nat) : Int) = true) : hasT [k] (sanB s).data.toList = false := by
  rw [sanB_eq h, ens_list, hasT_one, List.any_eq_false]
  intro b hb he
  have he : b = k := by simpa using he
  subst he
  unfold ens at hb
  rw [List.mem_flatMap] at hb
  obtain ⟨z, hz, hb⟩ := hb
  rcases en_byte (san_R z hz) hb with ⟨_, e⟩ | e
  · rcases san_mem _ _ _ z hz with e2 | ⟨_, r, hs⟩
    · rw [← e, e2] at hw
      revert hw
      decide
    · rw [← e, stay_space hs] at hw
      cases hw
  · omega
theorem ens_cons (z : Int) (l : List Int) : (ens (z :: l)).length = (en z).length + (ens l).length := by unfold ens; rw [List.flatMap_cons, List.length_append]
theorem en_len (z : Int) (hz : isR z) : 1 ≤ (en z).length := List.length_pos_iff.2 (en_ne hz)
theorem san_len : ∀ (R : List Int) (last : Option Int) (sp : Bool), (∀ z ∈ R, isR z) → (ens (san R last sp)).length ≤ (ens R).length + (if sp = true then 1 else 0)
  | [], _, _, _ => by simp [san, ens]
  | c :: r, last, sp, h => by
    have ih := fun last sp => san_len r last sp (fun z hz => h z (List.mem_cons_of_mem _ hz))
    have h1 := en_len c (h c List.mem_cons_self)
    rw [san, ens_cons]
    split
    · rename_i hs
      have i1 := ih (some c) false
      rw [if_neg (by simp)] at i1
      split
      · rename_i hd
        have hsp : sp = true := by
          rw [stay_space hs] at hd
          cases sp
          · simp at hd
          · rfl
        rw [ens_cons, ens_cons, hsp, if_pos rfl]
        have h45 : (en 45).length = 1 := by decide
        omega
      · rw [ens_cons]
        omega
    · have i1 := ih last (sp || isSpaceZ c)
      cases sp
      · cases hw : isSpaceZ c
        · rw [hw] at i1; simp at i1 ⊢; omega
        · rw [hw] at i1; simp at i1 ⊢; omega
      · simp at i1 ⊢; omega
theorem sanB_le {s : ByteArray} (h : runesBytes (rs s.data.toList) = s) : (sanB s).size ≤ s.size := by
  have h1 := san_len (rs s.data.toList) none false (fun z hz => rs_isR z hz)
  rw [if_neg (by simp)] at h1
  have h2 : (runesBytes (rs s.data.toList)).data.toList.length = s.data.toList.length := by rw [h]
  rw [ens_list] at h2
  have h3 : (sanB s).data.toList.length = (runesBytes (san (rs s.data.toList) none false)).data.toList.length := by rw [sanB_eq h]
  rw [ens_list] at h3
  rw [size_list] at h2 h3
  omega
end Go.Proofs.YtflmkgkkjhphkaaDoor.San0
