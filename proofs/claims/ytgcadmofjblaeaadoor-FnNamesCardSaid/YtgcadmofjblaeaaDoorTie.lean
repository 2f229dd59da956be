/-
  DERIVED. GIVEN WITH THE SEED: THE PROGRAM's TIES (one call each: nine closed facts by the kernel) AND EACH ROW's TIE, after the 31st guide's Derived/Test/Toyas{Tie, Card}.lean. No idea stands in it: it is a product of the set-up. Laid BY PROGRAM, IN A SANDBOX (cutbox-door.mjs). By AI agents, Wed Nov 11 2026. No macro, syntax, notation, axiom, sorry.
-/
import Derived.Test.YtgcadmofjblaeaaDoorRows
import Derived.LaidByTextLater
import Derived.SevenTiedAt
import Derived.LaidSub
import Derived.LaidOnce
namespace Go.Proofs.YtgcadmofjblaeaaDoor
open Go
set_option maxRecDepth 100000
theorem seatTie1 : Tryd.prog.laidByTextLater [("pub-quirehand/pub/hugo/common/paths.fpb", Rows.laid_pub_quirehand_pub_hugo_common_paths_fpb), ("pub-quirehand/pub/hugo/common/paths.pb", Rows.laid_pub_quirehand_pub_hugo_common_paths_pb)] [.zero, .zero] true :=
  Program.laidByTextLater_by_one 11 8 2 (by kernel_rfl) (by kernel_rfl) (by kernel_rfl) (by kernel_rfl) (by kernel_rfl) (by kernel_rfl) (fun _ _ => by kernel_rfl)
theorem noOwnUnsafe : Tryd.pinned.checked.prog.headLifts.contains "ownunsafe" = false := by kernel_rfl
theorem tie : Tryd.prog.laidByTextLater [("pub-quirehand/pub/hugo/common/paths.fpb", Rows.laid_pub_quirehand_pub_hugo_common_paths_fpb), ("pub-quirehand/pub/hugo/common/paths.pb", Rows.laid_pub_quirehand_pub_hugo_common_paths_pb)] [.zero, .zero] true :=
  Program.laidByTextLater.sub seatTie1 ["pub-quirehand/pub/hugo/common/paths.fpb", "pub-quirehand/pub/hugo/common/paths.pb"] (by kernel_rfl) (by kernel_rfl)
theorem fnExtension_row_tie : Rows.fnExtensionRow.laidByTextAt .later Tryd.pinned [.zero, .zero] true :=
  OpenClaim.laidByTextAt_later rfl rfl tie noOwnUnsafe
theorem fnNames_row_tie : Rows.fnNamesRow.laidByTextAt .later Tryd.pinned [.zero, .zero] true :=
  OpenClaim.laidByTextAt_later rfl rfl tie noOwnUnsafe
theorem tie2 : Tryd.prog.laidByTextLater [("pub-quirehand/pub/hugo/common/paths.fpb", Rows.laid_pub_quirehand_pub_hugo_common_paths_fpb)] [.zero] true :=
  Program.laidByTextLater.sub seatTie1 ["pub-quirehand/pub/hugo/common/paths.fpb"] (by kernel_rfl) (by kernel_rfl)
theorem fnNameBuilt_row_tie : Rows.fnNameBuiltRow.laidByTextAt .later Tryd.pinned [.zero] true :=
  OpenClaim.laidByTextAt_later rfl rfl tie2 noOwnUnsafe
theorem fnExtensionUpto_row_tie : Rows.fnExtensionUptoRow.laidByTextAt .later Tryd.pinned [.zero, .zero] true :=
  OpenClaim.laidByTextAt_later rfl rfl tie noOwnUnsafe
theorem fnNameBuiltUpto_row_tie : Rows.fnNameBuiltUptoRow.laidByTextAt .later Tryd.pinned [.zero] true :=
  OpenClaim.laidByTextAt_later rfl rfl tie2 noOwnUnsafe
theorem fnNamesUpto_row_tie : Rows.fnNamesUptoRow.laidByTextAt .later Tryd.pinned [.zero, .zero] true :=
  OpenClaim.laidByTextAt_later rfl rfl tie noOwnUnsafe
end Go.Proofs.YtgcadmofjblaeaaDoor
