/- FnTagsAll: what its row asks of the walk. -/
import Derived.Test.YthjddnmfpdcjnaaDoorLawFnTagsAll
namespace Go.Proofs.YthjddnmfpdcjnaaDoor.Pure
theorem FnTagsAll (W : World) (hL : laidMetH Tryd.prog Rows.fnTagsAllRow.laid W) (a0 : ByteArray) (w0 : a0.size ≤ 140737488351232) : true = true ∧ a0.size ≤ 140737488351232 ∧ LawL.Tabs W := ⟨rfl, w0, LawL.tabs_of_laid hL⟩
end Go.Proofs.YthjddnmfpdcjnaaDoor.Pure
