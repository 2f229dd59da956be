/- FnElements, the plain law: the three lists of elements are the same by the code and by the reference, for every name. -/
import Derived.Test.YtelijbnnhgmklaaPFnElementsx2
import Derived.Test.YtelijbnnhgmklaaLib0
namespace Go.Proofs.Ytelijbnnhgmklaa.Pure
open Go.RowKit Go.Proofs.Ytelijbnnhgmklaa.PFnElements Go.Proofs.YtelijbnnhgmklaaW.PrintWords Go.Proofs.YtelijbnnhgmklaaW.PrintLast Go.Proofs.Ytelijbnnhgmklaa.Lib0

theorem el_chain (p x : List UInt8) (xs : List (List UInt8)) (c : Option Bool) (h : c = some (decide (p ∈ xs))) :
    (if p = x then some true else c) = some (decide (p ∈ x :: xs)) := by
  by_cases e : p = x
  · rw [if_pos e]; simp [e]
  · rw [if_neg e, h]; simp [e]
theorem el_last (p : List UInt8) : some false = some (decide (p ∈ ([] : List (List UInt8)))) := by simp

theorem el_listed (p : ByteArray) (l : List ByteArray) (hl : l.length ≤ 1000) : ∀ (d k i : Nat), l.length - i = d → i ≤ l.length → d < k →
    spec_tagListed.l0 k p l i = some (decide (p.toList ∈ (l.drop i).map (·.toList))) := by
  intro d
  induction d with
  | zero =>
    intro k i hd hi hk
    obtain ⟨k, rfl⟩ : ∃ m, k = m + 1 := ⟨k - 1, by omega⟩
    simp only [spec_tagListed.l0]; rw [if_neg (by omega)]
    have : l.drop i = [] := List.drop_eq_nil_of_le (by omega)
    rw [this]; simp
  | succ d ih =>
    intro k i hd hi hk
    obtain ⟨k, rfl⟩ : ∃ m, k = m + 1 := ⟨k - 1, by omega⟩
    have hlt : i < l.length := by omega
    have e : l.drop i = l[i] :: l.drop (i + 1) := List.drop_eq_getElem_cons hlt
    have er : rdOf ByteArray.empty l (i : Int) = l[i] := by
      unfold rdOf
      simp [List.getD, hlt]
    simp only [spec_tagListed.l0]; rw [if_pos (by omega), if_pos (by omega), er, e]
    by_cases h : l[i].toList = p.toList
    · rw [if_pos h, List.map_cons]; simp only [List.mem_cons, h, true_or, decide_true]
    · rw [if_neg h, wrap_id _ (by omega)]
      have := ih k (i + 1) (by omega) (by omega) (by omega)
      rw [show ((i : Int) + 1) = ((i + 1 : Nat) : Int) by omega, this]
      have h' : ¬ p.toList = l[i].toList := fun x => h x.symm
      rw [List.map_cons]; simp only [List.mem_cons, h', false_or]

theorem el_listed0 (p : ByteArray) (l : List ByteArray) (hl : l.length ≤ 1000) (k : Nat) (hk : l.length < k) : spec_tagListed.f k p l = some (decide (p.toList ∈ l.map (·.toList))) := by
  unfold spec_tagListed.f
  exact el_listed p l hl l.length k 0 (by omega) (by omega) hk

theorem el_lit (a : Array UInt8) : (⟨a⟩ : ByteArray).toList = a.toList := list_eq _

theorem FnElements : laws_FnElements.Pure := by
  intro s hs
  refine ⟨1000, ?_⟩
  unfold laws_FnElements.f
  by_cases h1 : (s.size : Int) > 2147483647
  · rw [if_pos h1]
  rw [if_neg h1]
  have r1 : impl_RawText.f s = spec_RawText.f 1000 s := by
    unfold impl_RawText.f spec_RawText.f hhtml_IsRawTextElement.f
    rw [el_listed0 _ _ (by decide) _ (by decide)]
    simp only [List.map_cons, List.map_nil, el_lit]
    congr 1
    repeat refine el_chain _ _ _ _ ?_
    exact el_last _
  have r2 : impl_Void.f s = spec_Void.f 1000 s := by
    unfold impl_Void.f spec_Void.f hhtml_IsVoidElement.f
    rw [el_listed0 _ _ (by decide) _ (by decide)]
    simp only [List.map_cons, List.map_nil, el_lit]
    congr 1
    repeat refine el_chain _ _ _ _ ?_
    exact el_last _
  have r3 : impl_Block.f s = spec_Block.f 1000 s := by
    unfold impl_Block.f spec_Block.f hhtml_IsBlockElement.f
    rw [el_listed0 _ _ (by decide) _ (by decide)]
    simp only [List.map_cons, List.map_nil, el_lit]
    congr 1
    repeat refine el_chain _ _ _ _ ?_
    exact el_last _
  have q1 : ∃ b, spec_RawText.f 1000 s = some b := by
    unfold spec_RawText.f; rw [el_listed0 _ _ (by decide) _ (by decide)]; exact ⟨_, rfl⟩
  have q2 : ∃ b, spec_Void.f 1000 s = some b := by
    unfold spec_Void.f; rw [el_listed0 _ _ (by decide) _ (by decide)]; exact ⟨_, rfl⟩
  have q3 : ∃ b, spec_Block.f 1000 s = some b := by
    unfold spec_Block.f; rw [el_listed0 _ _ (by decide) _ (by decide)]; exact ⟨_, rfl⟩
  obtain ⟨b1, q1⟩ := q1
  obtain ⟨b2, q2⟩ := q2
  obtain ⟨b3, q3⟩ := q3
  rw [r1, r2, r3, q1, q2, q3]
  simp

end Go.Proofs.Ytelijbnnhgmklaa.Pure
