/-
  DERIVED. GIVEN WITH THE SEED: THE PROGRAM's TIES (one call each: nine closed facts by the kernel) AND EACH ROW's TIE, after the 31st guide's Derived/Test/Toyas{Tie, Card}.lean. No idea stands in it: it is a product of the set-up. Laid BY PROGRAM, IN A SANDBOX (cutbox-door.mjs). By AI agents, Wed Nov 11 2026. No macro, syntax, notation, axiom, sorry.
-/
import Derived.Test.YtgbcidkplanapaaDoorRows
import Derived.LaidByTextLater
import Derived.SevenTiedAt
import Derived.LaidSub
import Derived.LaidOnce
namespace Go.Proofs.YtgbcidkplanapaaDoor
open Go
set_option maxRecDepth 100000
theorem seatTie1 : Tryd.prog.laidByTextLater [] [] true :=
  Program.laidByTextLater_by_one 11 8 2 (by kernel_rfl) (by kernel_rfl) (by kernel_rfl) (by kernel_rfl) (by kernel_rfl) (by kernel_rfl) (fun _ _ => by kernel_rfl)
theorem pin_laid_unicode_CaseRanges : Tryd.pinned.checked.prog.pinnedFits "unicode.CaseRanges" = true := by kernel_rfl
theorem noOwnUnsafe : Tryd.pinned.checked.prog.headLifts.contains "ownunsafe" = false := by kernel_rfl
theorem fits1 : Tryd.pinned.checked.prog.listedFits [("unicode.CaseRanges", Rows.laid_unicode_CaseRanges)] = true := by
  unfold Program.listedFits
  rw [noOwnUnsafe]
  kernel_rfl
theorem tie : Tryd.prog.laidByTextLater [] [] true :=
  Program.laidByTextLater.sub seatTie1 [] (by kernel_rfl) (by kernel_rfl)
theorem fnToLowerTwice_row_tie : Rows.fnToLowerTwiceRow.laidByTextAt .later Tryd.pinned [.pinned] true :=
  OpenClaim.laidByTextAt_pinned rfl rfl tie rfl rfl rfl rfl (fun y hy _e => by
    simp only [Rows.fnToLowerTwiceRow, List.zip_cons_cons, List.zip_nil_right, List.mem_cons, List.mem_nil_iff, or_false] at hy
    rcases hy with rfl
    · exact ⟨pin_laid_unicode_CaseRanges, by kernel_rfl⟩) fits1
theorem fnToTitle_row_tie : Rows.fnToTitleRow.laidByTextAt .later Tryd.pinned [.pinned] true :=
  OpenClaim.laidByTextAt_pinned rfl rfl tie rfl rfl rfl rfl (fun y hy _e => by
    simp only [Rows.fnToTitleRow, List.zip_cons_cons, List.zip_nil_right, List.mem_cons, List.mem_nil_iff, or_false] at hy
    rcases hy with rfl
    · exact ⟨pin_laid_unicode_CaseRanges, by kernel_rfl⟩) fits1
theorem fnToTitleTwice_row_tie : Rows.fnToTitleTwiceRow.laidByTextAt .later Tryd.pinned [.pinned] true :=
  OpenClaim.laidByTextAt_pinned rfl rfl tie rfl rfl rfl rfl (fun y hy _e => by
    simp only [Rows.fnToTitleTwiceRow, List.zip_cons_cons, List.zip_nil_right, List.mem_cons, List.mem_nil_iff, or_false] at hy
    rcases hy with rfl
    · exact ⟨pin_laid_unicode_CaseRanges, by kernel_rfl⟩) fits1
theorem fnToUpper_row_tie : Rows.fnToUpperRow.laidByTextAt .later Tryd.pinned [.pinned] true :=
  OpenClaim.laidByTextAt_pinned rfl rfl tie rfl rfl rfl rfl (fun y hy _e => by
    simp only [Rows.fnToUpperRow, List.zip_cons_cons, List.zip_nil_right, List.mem_cons, List.mem_nil_iff, or_false] at hy
    rcases hy with rfl
    · exact ⟨pin_laid_unicode_CaseRanges, by kernel_rfl⟩) fits1
theorem fnToUpperTwice_row_tie : Rows.fnToUpperTwiceRow.laidByTextAt .later Tryd.pinned [.pinned] true :=
  OpenClaim.laidByTextAt_pinned rfl rfl tie rfl rfl rfl rfl (fun y hy _e => by
    simp only [Rows.fnToUpperTwiceRow, List.zip_cons_cons, List.zip_nil_right, List.mem_cons, List.mem_nil_iff, or_false] at hy
    rcases hy with rfl
    · exact ⟨pin_laid_unicode_CaseRanges, by kernel_rfl⟩) fits1
theorem fnLowerUpper_row_tie : Rows.fnLowerUpperRow.laidByTextAt .later Tryd.pinned [.pinned] true :=
  OpenClaim.laidByTextAt_pinned rfl rfl tie rfl rfl rfl rfl (fun y hy _e => by
    simp only [Rows.fnLowerUpperRow, List.zip_cons_cons, List.zip_nil_right, List.mem_cons, List.mem_nil_iff, or_false] at hy
    rcases hy with rfl
    · exact ⟨pin_laid_unicode_CaseRanges, by kernel_rfl⟩) fits1
theorem fnTitleUpper_row_tie : Rows.fnTitleUpperRow.laidByTextAt .later Tryd.pinned [.pinned] true :=
  OpenClaim.laidByTextAt_pinned rfl rfl tie rfl rfl rfl rfl (fun y hy _e => by
    simp only [Rows.fnTitleUpperRow, List.zip_cons_cons, List.zip_nil_right, List.mem_cons, List.mem_nil_iff, or_false] at hy
    rcases hy with rfl
    · exact ⟨pin_laid_unicode_CaseRanges, by kernel_rfl⟩) fits1
theorem fnUpperLower_row_tie : Rows.fnUpperLowerRow.laidByTextAt .later Tryd.pinned [.pinned] true :=
  OpenClaim.laidByTextAt_pinned rfl rfl tie rfl rfl rfl rfl (fun y hy _e => by
    simp only [Rows.fnUpperLowerRow, List.zip_cons_cons, List.zip_nil_right, List.mem_cons, List.mem_nil_iff, or_false] at hy
    rcases hy with rfl
    · exact ⟨pin_laid_unicode_CaseRanges, by kernel_rfl⟩) fits1
theorem fnInvalidMap_row_tie : Rows.fnInvalidMapRow.laidByTextAt .later Tryd.pinned [.pinned] true :=
  OpenClaim.laidByTextAt_pinned rfl rfl tie rfl rfl rfl rfl (fun y hy _e => by
    simp only [Rows.fnInvalidMapRow, List.zip_cons_cons, List.zip_nil_right, List.mem_cons, List.mem_nil_iff, or_false] at hy
    rcases hy with rfl
    · exact ⟨pin_laid_unicode_CaseRanges, by kernel_rfl⟩) fits1
theorem fnMapASCII_row_tie : Rows.fnMapASCIIRow.laidByTextAt .later Tryd.pinned [.pinned] true :=
  OpenClaim.laidByTextAt_pinned rfl rfl tie rfl rfl rfl rfl (fun y hy _e => by
    simp only [Rows.fnMapASCIIRow, List.zip_cons_cons, List.zip_nil_right, List.mem_cons, List.mem_nil_iff, or_false] at hy
    rcases hy with rfl
    · exact ⟨pin_laid_unicode_CaseRanges, by kernel_rfl⟩) fits1
theorem fnTitleGeorgian_row_tie : Rows.fnTitleGeorgianRow.laidByTextAt .later Tryd.pinned [.pinned] true :=
  OpenClaim.laidByTextAt_pinned rfl rfl tie rfl rfl rfl rfl (fun y hy _e => by
    simp only [Rows.fnTitleGeorgianRow, List.zip_cons_cons, List.zip_nil_right, List.mem_cons, List.mem_nil_iff, or_false] at hy
    rcases hy with rfl
    · exact ⟨pin_laid_unicode_CaseRanges, by kernel_rfl⟩) fits1
theorem fnTitleMiddle_row_tie : Rows.fnTitleMiddleRow.laidByTextAt .later Tryd.pinned [.pinned] true :=
  OpenClaim.laidByTextAt_pinned rfl rfl tie rfl rfl rfl rfl (fun y hy _e => by
    simp only [Rows.fnTitleMiddleRow, List.zip_cons_cons, List.zip_nil_right, List.mem_cons, List.mem_nil_iff, or_false] at hy
    rcases hy with rfl
    · exact ⟨pin_laid_unicode_CaseRanges, by kernel_rfl⟩) fits1
theorem fnToLowerTwiceUpto_row_tie : Rows.fnToLowerTwiceUptoRow.laidByTextAt .later Tryd.pinned [.pinned] true :=
  OpenClaim.laidByTextAt_pinned rfl rfl tie rfl rfl rfl rfl (fun y hy _e => by
    simp only [Rows.fnToLowerTwiceUptoRow, List.zip_cons_cons, List.zip_nil_right, List.mem_cons, List.mem_nil_iff, or_false] at hy
    rcases hy with rfl
    · exact ⟨pin_laid_unicode_CaseRanges, by kernel_rfl⟩) fits1
theorem fnToTitleUpto_row_tie : Rows.fnToTitleUptoRow.laidByTextAt .later Tryd.pinned [.pinned] true :=
  OpenClaim.laidByTextAt_pinned rfl rfl tie rfl rfl rfl rfl (fun y hy _e => by
    simp only [Rows.fnToTitleUptoRow, List.zip_cons_cons, List.zip_nil_right, List.mem_cons, List.mem_nil_iff, or_false] at hy
    rcases hy with rfl
    · exact ⟨pin_laid_unicode_CaseRanges, by kernel_rfl⟩) fits1
theorem fnToTitleTwiceUpto_row_tie : Rows.fnToTitleTwiceUptoRow.laidByTextAt .later Tryd.pinned [.pinned] true :=
  OpenClaim.laidByTextAt_pinned rfl rfl tie rfl rfl rfl rfl (fun y hy _e => by
    simp only [Rows.fnToTitleTwiceUptoRow, List.zip_cons_cons, List.zip_nil_right, List.mem_cons, List.mem_nil_iff, or_false] at hy
    rcases hy with rfl
    · exact ⟨pin_laid_unicode_CaseRanges, by kernel_rfl⟩) fits1
theorem fnToUpperUpto_row_tie : Rows.fnToUpperUptoRow.laidByTextAt .later Tryd.pinned [.pinned] true :=
  OpenClaim.laidByTextAt_pinned rfl rfl tie rfl rfl rfl rfl (fun y hy _e => by
    simp only [Rows.fnToUpperUptoRow, List.zip_cons_cons, List.zip_nil_right, List.mem_cons, List.mem_nil_iff, or_false] at hy
    rcases hy with rfl
    · exact ⟨pin_laid_unicode_CaseRanges, by kernel_rfl⟩) fits1
theorem fnToUpperTwiceUpto_row_tie : Rows.fnToUpperTwiceUptoRow.laidByTextAt .later Tryd.pinned [.pinned] true :=
  OpenClaim.laidByTextAt_pinned rfl rfl tie rfl rfl rfl rfl (fun y hy _e => by
    simp only [Rows.fnToUpperTwiceUptoRow, List.zip_cons_cons, List.zip_nil_right, List.mem_cons, List.mem_nil_iff, or_false] at hy
    rcases hy with rfl
    · exact ⟨pin_laid_unicode_CaseRanges, by kernel_rfl⟩) fits1
theorem fnLowerUpperUpto_row_tie : Rows.fnLowerUpperUptoRow.laidByTextAt .later Tryd.pinned [.pinned] true :=
  OpenClaim.laidByTextAt_pinned rfl rfl tie rfl rfl rfl rfl (fun y hy _e => by
    simp only [Rows.fnLowerUpperUptoRow, List.zip_cons_cons, List.zip_nil_right, List.mem_cons, List.mem_nil_iff, or_false] at hy
    rcases hy with rfl
    · exact ⟨pin_laid_unicode_CaseRanges, by kernel_rfl⟩) fits1
theorem fnTitleUpperUpto_row_tie : Rows.fnTitleUpperUptoRow.laidByTextAt .later Tryd.pinned [.pinned] true :=
  OpenClaim.laidByTextAt_pinned rfl rfl tie rfl rfl rfl rfl (fun y hy _e => by
    simp only [Rows.fnTitleUpperUptoRow, List.zip_cons_cons, List.zip_nil_right, List.mem_cons, List.mem_nil_iff, or_false] at hy
    rcases hy with rfl
    · exact ⟨pin_laid_unicode_CaseRanges, by kernel_rfl⟩) fits1
theorem fnUpperLowerUpto_row_tie : Rows.fnUpperLowerUptoRow.laidByTextAt .later Tryd.pinned [.pinned] true :=
  OpenClaim.laidByTextAt_pinned rfl rfl tie rfl rfl rfl rfl (fun y hy _e => by
    simp only [Rows.fnUpperLowerUptoRow, List.zip_cons_cons, List.zip_nil_right, List.mem_cons, List.mem_nil_iff, or_false] at hy
    rcases hy with rfl
    · exact ⟨pin_laid_unicode_CaseRanges, by kernel_rfl⟩) fits1
theorem fnInvalidMapUpto_row_tie : Rows.fnInvalidMapUptoRow.laidByTextAt .later Tryd.pinned [.pinned] true :=
  OpenClaim.laidByTextAt_pinned rfl rfl tie rfl rfl rfl rfl (fun y hy _e => by
    simp only [Rows.fnInvalidMapUptoRow, List.zip_cons_cons, List.zip_nil_right, List.mem_cons, List.mem_nil_iff, or_false] at hy
    rcases hy with rfl
    · exact ⟨pin_laid_unicode_CaseRanges, by kernel_rfl⟩) fits1
theorem fnMapASCIIUpto_row_tie : Rows.fnMapASCIIUptoRow.laidByTextAt .later Tryd.pinned [.pinned] true :=
  OpenClaim.laidByTextAt_pinned rfl rfl tie rfl rfl rfl rfl (fun y hy _e => by
    simp only [Rows.fnMapASCIIUptoRow, List.zip_cons_cons, List.zip_nil_right, List.mem_cons, List.mem_nil_iff, or_false] at hy
    rcases hy with rfl
    · exact ⟨pin_laid_unicode_CaseRanges, by kernel_rfl⟩) fits1
theorem fnTitleGeorgianUpto_row_tie : Rows.fnTitleGeorgianUptoRow.laidByTextAt .later Tryd.pinned [.pinned] true :=
  OpenClaim.laidByTextAt_pinned rfl rfl tie rfl rfl rfl rfl (fun y hy _e => by
    simp only [Rows.fnTitleGeorgianUptoRow, List.zip_cons_cons, List.zip_nil_right, List.mem_cons, List.mem_nil_iff, or_false] at hy
    rcases hy with rfl
    · exact ⟨pin_laid_unicode_CaseRanges, by kernel_rfl⟩) fits1
theorem fnTitleMiddleUpto_row_tie : Rows.fnTitleMiddleUptoRow.laidByTextAt .later Tryd.pinned [.pinned] true :=
  OpenClaim.laidByTextAt_pinned rfl rfl tie rfl rfl rfl rfl (fun y hy _e => by
    simp only [Rows.fnTitleMiddleUptoRow, List.zip_cons_cons, List.zip_nil_right, List.mem_cons, List.mem_nil_iff, or_false] at hy
    rcases hy with rfl
    · exact ⟨pin_laid_unicode_CaseRanges, by kernel_rfl⟩) fits1
end Go.Proofs.YtgbcidkplanapaaDoor
