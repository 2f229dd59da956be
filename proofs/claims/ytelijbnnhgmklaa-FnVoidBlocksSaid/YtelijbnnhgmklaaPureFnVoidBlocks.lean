/- FnVoidBlocks, the plain law: an element that holds raw text is neither void nor a block, for every name. -/
import Derived.Test.YtelijbnnhgmklaaPFnVoidBlocksx2
import Derived.Test.YtelijbnnhgmklaaLib0
namespace Go.Proofs.Ytelijbnnhgmklaa.Pure
open Go.RowKit Go.Proofs.Ytelijbnnhgmklaa.PFnVoidBlocks Go.Proofs.YtelijbnnhgmklaaW.PrintWords Go.Proofs.YtelijbnnhgmklaaW.PrintLast Go.Proofs.Ytelijbnnhgmklaa.Lib0

def vbRaw : List (List UInt8) := [[115, 99, 114, 105, 112, 116], [115, 116, 121, 108, 101], [116, 101, 120, 116, 97, 114, 101, 97], [116, 105, 116, 108, 101], [105, 102, 114, 97, 109, 101], [120, 109, 112], [110, 111, 101, 109, 98, 101, 100], [110, 111, 102, 114, 97, 109, 101, 115]]
def vbVoid : List (List UInt8) := [[97, 114, 101, 97], [98, 97, 115, 101], [98, 114], [99, 111, 108], [101, 109, 98, 101, 100], [104, 114], [105, 109, 103], [105, 110, 112, 117, 116], [108, 105, 110, 107], [109, 101, 116, 97], [115, 111, 117, 114, 99, 101], [116, 114, 97, 99, 107], [119, 98, 114]]
def vbBlock : List (List UInt8) := [[97, 100, 100, 114, 101, 115, 115], [97, 114, 116, 105, 99, 108, 101], [97, 115, 105, 100, 101], [98, 108, 111, 99, 107, 113, 117, 111, 116, 101], [99, 97, 112, 116, 105, 111, 110], [100, 100], [100, 101, 116, 97, 105, 108, 115], [100, 105, 97, 108, 111, 103], [100, 105, 118], [100, 108], [100, 116], [102, 105, 101, 108, 100, 115, 101, 116], [102, 105, 103, 99, 97, 112, 116, 105, 111, 110], [102, 105, 103, 117, 114, 101], [102, 111, 111, 116, 101, 114], [102, 111, 114, 109], [104, 49], [104, 50], [104, 51], [104, 52], [104, 53], [104, 54], [104, 101, 97, 100, 101, 114], [104, 103, 114, 111, 117, 112], [104, 114], [108, 105], [109, 97, 105, 110], [110, 97, 118], [111, 108], [112], [112, 114, 101], [115, 101, 99, 116, 105, 111, 110], [115, 117, 109, 109, 97, 114, 121], [116, 97, 98, 108, 101], [116, 98, 111, 100, 121], [116, 100], [116, 102, 111, 111, 116], [116, 104], [116, 104, 101, 97, 100], [116, 114], [117, 108]]

theorem vb_chain (p x : List UInt8) (xs : List (List UInt8)) (c : Option Bool) (h : c = some (decide (p ∈ xs))) :
    (if p = x then some true else c) = some (decide (p ∈ x :: xs)) := by
  by_cases e : p = x
  · rw [if_pos e]; simp [e]
  · rw [if_neg e, h]; simp [e]
theorem vb_last (p : List UInt8) : some false = some (decide (p ∈ ([] : List (List UInt8)))) := by simp
theorem vb_bind (x : Option Bool) : (x.bind fun t => some t) = x := by cases x <;> rfl

theorem vb_raw (s : ByteArray) : impl_RawText.f s = some (decide (s.toList ∈ vbRaw)) := by
  unfold impl_RawText.f hhtml_IsRawTextElement.f vbRaw
  rw [vb_bind]
  repeat refine vb_chain _ _ _ _ ?_
  exact vb_last _
theorem vb_void (s : ByteArray) : impl_Void.f s = some (decide (s.toList ∈ vbVoid)) := by
  unfold impl_Void.f hhtml_IsVoidElement.f vbVoid
  rw [vb_bind]
  repeat refine vb_chain _ _ _ _ ?_
  exact vb_last _
theorem vb_block (s : ByteArray) : impl_Block.f s = some (decide (s.toList ∈ vbBlock)) := by
  unfold impl_Block.f hhtml_IsBlockElement.f vbBlock
  rw [vb_bind]
  repeat refine vb_chain _ _ _ _ ?_
  exact vb_last _

theorem vb_apart : ∀ x ∈ vbRaw, x ∉ vbVoid ∧ x ∉ vbBlock := by decide

theorem vb_lit (a : Array UInt8) : (⟨a⟩ : ByteArray).toList = a.toList := list_eq _

theorem FnVoidBlocks : laws_FnVoidBlocks.Pure := by
  intro s hs
  refine ⟨10, ?_⟩
  unfold laws_FnVoidBlocks.f
  by_cases h1 : (s.size : Int) > 2147483647
  · rw [if_pos h1]
  rw [if_neg h1]
  have c1 : impl_Void.f (⟨#[98, 114]⟩ : ByteArray) = some true := by rw [vb_void, vb_lit]; decide
  have c2 : impl_Block.f (⟨#[100, 105, 118]⟩ : ByteArray) = some true := by rw [vb_block, vb_lit]; decide
  have c3 : impl_RawText.f (⟨#[115, 99, 114, 105, 112, 116]⟩ : ByteArray) = some true := by rw [vb_raw, vb_lit]; decide
  rw [c1, c2, c3]
  have w0 : wrap64 1 = 1 := wrap_id _ (by omega)
  have w1 : wrap64 2 = 2 := wrap_id _ (by omega)
  have a := vb_apart s.toList
  by_cases hr : s.toList ∈ vbRaw
  · obtain ⟨hv, hb⟩ := a hr
    have e1 : impl_RawText.f s = some true := by rw [vb_raw]; simp [hr]
    have e2 : impl_Void.f s = some false := by rw [vb_void]; simp [hv]
    have e3 : impl_Block.f s = some false := by rw [vb_block]; simp [hb]
    simp [laws_FnVoidBlocks.j0, laws_FnVoidBlocks.j1, laws_FnVoidBlocks.l0, e1, e2, e3, rdOf, w0, w1]
  · have e1 : impl_RawText.f s = some false := by rw [vb_raw]; simp [hr]
    obtain ⟨v, e2⟩ : ∃ v, impl_Void.f s = some v := ⟨_, vb_void s⟩
    obtain ⟨b, e3⟩ : ∃ b, impl_Block.f s = some b := ⟨_, vb_block s⟩
    cases v <;> cases b <;> simp [laws_FnVoidBlocks.j0, laws_FnVoidBlocks.j1, laws_FnVoidBlocks.l0, e1, e2, e3, rdOf, w0, w1]

end Go.Proofs.Ytelijbnnhgmklaa.Pure
