/-
  DERIVED. GIVEN WITH THE SEED: THE PROGRAM's TIES (one call each: nine closed facts by the kernel) AND EACH ROW's TIE, after the 31st guide's Derived/Test/Toyas{Tie, Card}.lean. No idea stands in it: it is a product of the set-up. Laid BY PROGRAM, IN A SANDBOX (cutbox-door.mjs). By AI agents, Wed Nov 11 2026. No macro, syntax, notation, axiom, sorry.
-/
import Derived.Test.YtflmkgkkjhphkaaDoorRows
import Derived.LaidByTextLater
import Derived.SevenTiedAt
import Derived.LaidSub
import Derived.LaidOnce
namespace Go.Proofs.YtflmkgkkjhphkaaDoor
open Go
set_option maxRecDepth 100000
theorem seatTie1 : Tryd.prog.laidByTextLater [("unicode.White_Space", Rows.laid_unicode_White_Space), ("unicode.properties", Rows.laid_unicode_properties)] [.listed, .data] true :=
  Program.laidByTextLater_by_one 33 8 257 (by kernel_rfl) (by kernel_rfl) (by kernel_rfl) (by kernel_rfl) (by kernel_rfl) (by kernel_rfl) (fun _ _ => by kernel_rfl)
theorem pin_laid_unicode_Digit : Tryd.pinned.checked.prog.pinnedFits "unicode.Digit" = true := by kernel_rfl
theorem pin_laid_unicode_Letter : Tryd.pinned.checked.prog.pinnedFits "unicode.Letter" = true := by kernel_rfl
theorem pin_laid_unicode_Mark : Tryd.pinned.checked.prog.pinnedFits "unicode.Mark" = true := by kernel_rfl
theorem noOwnUnsafe : Tryd.pinned.checked.prog.headLifts.contains "ownunsafe" = false := by kernel_rfl
theorem fits1 : Tryd.pinned.checked.prog.listedFits [("unicode.White_Space", Rows.laid_unicode_White_Space), ("unicode.properties", Rows.laid_unicode_properties), ("unicode.Digit", Rows.laid_unicode_Digit), ("unicode.Letter", Rows.laid_unicode_Letter), ("unicode.Mark", Rows.laid_unicode_Mark)] = true := by
  unfold Program.listedFits
  rw [noOwnUnsafe]
  kernel_rfl
theorem tie : Tryd.prog.laidByTextLater [("unicode.White_Space", Rows.laid_unicode_White_Space), ("unicode.properties", Rows.laid_unicode_properties)] [.listed, .data] true :=
  Program.laidByTextLater.sub seatTie1 ["unicode.White_Space", "unicode.properties"] (by kernel_rfl) (by kernel_rfl)
theorem fnSanitize_row_tie : Rows.fnSanitizeRow.laidByTextAt .later Tryd.pinned [.listed, .data, .pinned, .pinned, .pinned] true :=
  OpenClaim.laidByTextAt_pinned rfl rfl tie rfl rfl rfl rfl (fun y hy _e => by
    simp only [Rows.fnSanitizeRow, List.zip_cons_cons, List.zip_nil_right, List.mem_cons, List.mem_nil_iff, or_false] at hy
    rcases hy with rfl | rfl | rfl | rfl | rfl
    · cases _e
    · cases _e
    · exact ⟨pin_laid_unicode_Digit, by kernel_rfl⟩
    · exact ⟨pin_laid_unicode_Letter, by kernel_rfl⟩
    · exact ⟨pin_laid_unicode_Mark, by kernel_rfl⟩) fits1
theorem fnSanitizeDrops_row_tie : Rows.fnSanitizeDropsRow.laidByTextAt .later Tryd.pinned [.listed, .data, .pinned, .pinned, .pinned] true :=
  OpenClaim.laidByTextAt_pinned rfl rfl tie rfl rfl rfl rfl (fun y hy _e => by
    simp only [Rows.fnSanitizeDropsRow, List.zip_cons_cons, List.zip_nil_right, List.mem_cons, List.mem_nil_iff, or_false] at hy
    rcases hy with rfl | rfl | rfl | rfl | rfl
    · cases _e
    · cases _e
    · exact ⟨pin_laid_unicode_Digit, by kernel_rfl⟩
    · exact ⟨pin_laid_unicode_Letter, by kernel_rfl⟩
    · exact ⟨pin_laid_unicode_Mark, by kernel_rfl⟩) fits1
theorem fnSanitizeParts_row_tie : Rows.fnSanitizePartsRow.laidByTextAt .later Tryd.pinned [.listed, .data, .pinned, .pinned, .pinned] true :=
  OpenClaim.laidByTextAt_pinned rfl rfl tie rfl rfl rfl rfl (fun y hy _e => by
    simp only [Rows.fnSanitizePartsRow, List.zip_cons_cons, List.zip_nil_right, List.mem_cons, List.mem_nil_iff, or_false] at hy
    rcases hy with rfl | rfl | rfl | rfl | rfl
    · cases _e
    · cases _e
    · exact ⟨pin_laid_unicode_Digit, by kernel_rfl⟩
    · exact ⟨pin_laid_unicode_Letter, by kernel_rfl⟩
    · exact ⟨pin_laid_unicode_Mark, by kernel_rfl⟩) fits1
theorem fnSanitizeTwice_row_tie : Rows.fnSanitizeTwiceRow.laidByTextAt .later Tryd.pinned [.listed, .data, .pinned, .pinned, .pinned] true :=
  OpenClaim.laidByTextAt_pinned rfl rfl tie rfl rfl rfl rfl (fun y hy _e => by
    simp only [Rows.fnSanitizeTwiceRow, List.zip_cons_cons, List.zip_nil_right, List.mem_cons, List.mem_nil_iff, or_false] at hy
    rcases hy with rfl | rfl | rfl | rfl | rfl
    · cases _e
    · cases _e
    · exact ⟨pin_laid_unicode_Digit, by kernel_rfl⟩
    · exact ⟨pin_laid_unicode_Letter, by kernel_rfl⟩
    · exact ⟨pin_laid_unicode_Mark, by kernel_rfl⟩) fits1
theorem fnSanitizeWords_row_tie : Rows.fnSanitizeWordsRow.laidByTextAt .later Tryd.pinned [.listed, .data, .pinned, .pinned, .pinned] true :=
  OpenClaim.laidByTextAt_pinned rfl rfl tie rfl rfl rfl rfl (fun y hy _e => by
    simp only [Rows.fnSanitizeWordsRow, List.zip_cons_cons, List.zip_nil_right, List.mem_cons, List.mem_nil_iff, or_false] at hy
    rcases hy with rfl | rfl | rfl | rfl | rfl
    · cases _e
    · cases _e
    · exact ⟨pin_laid_unicode_Digit, by kernel_rfl⟩
    · exact ⟨pin_laid_unicode_Letter, by kernel_rfl⟩
    · exact ⟨pin_laid_unicode_Mark, by kernel_rfl⟩) fits1
theorem fnSanitizeUpto_row_tie : Rows.fnSanitizeUptoRow.laidByTextAt .later Tryd.pinned [.listed, .data, .pinned, .pinned, .pinned] true :=
  OpenClaim.laidByTextAt_pinned rfl rfl tie rfl rfl rfl rfl (fun y hy _e => by
    simp only [Rows.fnSanitizeUptoRow, List.zip_cons_cons, List.zip_nil_right, List.mem_cons, List.mem_nil_iff, or_false] at hy
    rcases hy with rfl | rfl | rfl | rfl | rfl
    · cases _e
    · cases _e
    · exact ⟨pin_laid_unicode_Digit, by kernel_rfl⟩
    · exact ⟨pin_laid_unicode_Letter, by kernel_rfl⟩
    · exact ⟨pin_laid_unicode_Mark, by kernel_rfl⟩) fits1
theorem fnSanitizeDropsUpto_row_tie : Rows.fnSanitizeDropsUptoRow.laidByTextAt .later Tryd.pinned [.listed, .data, .pinned, .pinned, .pinned] true :=
  OpenClaim.laidByTextAt_pinned rfl rfl tie rfl rfl rfl rfl (fun y hy _e => by
    simp only [Rows.fnSanitizeDropsUptoRow, List.zip_cons_cons, List.zip_nil_right, List.mem_cons, List.mem_nil_iff, or_false] at hy
    rcases hy with rfl | rfl | rfl | rfl | rfl
    · cases _e
    · cases _e
    · exact ⟨pin_laid_unicode_Digit, by kernel_rfl⟩
    · exact ⟨pin_laid_unicode_Letter, by kernel_rfl⟩
    · exact ⟨pin_laid_unicode_Mark, by kernel_rfl⟩) fits1
theorem fnSanitizePartsUpto_row_tie : Rows.fnSanitizePartsUptoRow.laidByTextAt .later Tryd.pinned [.listed, .data, .pinned, .pinned, .pinned] true :=
  OpenClaim.laidByTextAt_pinned rfl rfl tie rfl rfl rfl rfl (fun y hy _e => by
    simp only [Rows.fnSanitizePartsUptoRow, List.zip_cons_cons, List.zip_nil_right, List.mem_cons, List.mem_nil_iff, or_false] at hy
    rcases hy with rfl | rfl | rfl | rfl | rfl
    · cases _e
    · cases _e
    · exact ⟨pin_laid_unicode_Digit, by kernel_rfl⟩
    · exact ⟨pin_laid_unicode_Letter, by kernel_rfl⟩
    · exact ⟨pin_laid_unicode_Mark, by kernel_rfl⟩) fits1
theorem fnSanitizeTwiceUpto_row_tie : Rows.fnSanitizeTwiceUptoRow.laidByTextAt .later Tryd.pinned [.listed, .data, .pinned, .pinned, .pinned] true :=
  OpenClaim.laidByTextAt_pinned rfl rfl tie rfl rfl rfl rfl (fun y hy _e => by
    simp only [Rows.fnSanitizeTwiceUptoRow, List.zip_cons_cons, List.zip_nil_right, List.mem_cons, List.mem_nil_iff, or_false] at hy
    rcases hy with rfl | rfl | rfl | rfl | rfl
    · cases _e
    · cases _e
    · exact ⟨pin_laid_unicode_Digit, by kernel_rfl⟩
    · exact ⟨pin_laid_unicode_Letter, by kernel_rfl⟩
    · exact ⟨pin_laid_unicode_Mark, by kernel_rfl⟩) fits1
theorem fnSanitizeWordsUpto_row_tie : Rows.fnSanitizeWordsUptoRow.laidByTextAt .later Tryd.pinned [.listed, .data, .pinned, .pinned, .pinned] true :=
  OpenClaim.laidByTextAt_pinned rfl rfl tie rfl rfl rfl rfl (fun y hy _e => by
    simp only [Rows.fnSanitizeWordsUptoRow, List.zip_cons_cons, List.zip_nil_right, List.mem_cons, List.mem_nil_iff, or_false] at hy
    rcases hy with rfl | rfl | rfl | rfl | rfl
    · cases _e
    · cases _e
    · exact ⟨pin_laid_unicode_Digit, by kernel_rfl⟩
    · exact ⟨pin_laid_unicode_Letter, by kernel_rfl⟩
    · exact ⟨pin_laid_unicode_Mark, by kernel_rfl⟩) fits1
end Go.Proofs.YtflmkgkkjhphkaaDoor
