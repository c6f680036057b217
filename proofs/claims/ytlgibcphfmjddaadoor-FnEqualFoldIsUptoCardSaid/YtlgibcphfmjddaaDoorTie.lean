/-
  DERIVED. GIVEN WITH THE SEED: THE PROGRAM's TIES (one call each: nine closed facts by the kernel) AND EACH ROW's TIE, after the 31st guide's Derived/Test/Toyas{Tie, Card}.lean. No idea stands in it: it is a product of the set-up. Laid BY PROGRAM, IN A SANDBOX (cutbox-door.mjs). By AI agents, Wed Nov 11 2026. No macro, syntax, notation, axiom, sorry.
-/
import Derived.Test.YtlgibcphfmjddaaDoorRows
import Derived.LaidByTextLater
import Derived.SevenTiedAt
import Derived.LaidSub
import Derived.LaidOnce
namespace Go.Proofs.YtlgibcphfmjddaaDoor
open Go
set_option maxRecDepth 100000
theorem seatTie1 : Tryd.prog.laidByTextLater [("unicode/utf8.acceptRanges", Rows.laid_unicode_utf8_acceptRanges)] [.data] true :=
  Program.laidByTextLater_by_one 123 8 189 (by kernel_rfl) (by kernel_rfl) (by kernel_rfl) (by kernel_rfl) (by kernel_rfl) (by kernel_rfl) (fun _ _ => by kernel_rfl)
theorem seatTie2 : Tryd.prog.laidByTextLater [("unicode/utf8.acceptRanges", Rows.laid_unicode_utf8_acceptRanges), ("unicode.asciiFold", Rows.laid_unicode_asciiFold), ("unicode.caseOrbit", Rows.laid_unicode_caseOrbit)] [.data, .data, .data] true :=
  Program.laidByTextLater_by_one 123 8 189 (by kernel_rfl) (by kernel_rfl) (by kernel_rfl) (by kernel_rfl) (by kernel_rfl) (by kernel_rfl) (fun _ _ => by kernel_rfl)
theorem pin_laid_unicode_utf8_first : Tryd.pinned.checked.prog.pinnedFits "unicode/utf8.first" = true := by kernel_rfl
theorem pin_laid_unicode_CaseRanges : Tryd.pinned.checked.prog.pinnedFits "unicode.CaseRanges" = true := by kernel_rfl
theorem noOwnUnsafe : Tryd.pinned.checked.prog.headLifts.contains "ownunsafe" = false := by kernel_rfl
theorem fits1 : Tryd.pinned.checked.prog.listedFits [("unicode/utf8.acceptRanges", Rows.laid_unicode_utf8_acceptRanges), ("unicode/utf8.first", Rows.laid_unicode_utf8_first)] = true := by
  unfold Program.listedFits
  rw [noOwnUnsafe]
  kernel_rfl
theorem tie : Tryd.prog.laidByTextLater [("unicode/utf8.acceptRanges", Rows.laid_unicode_utf8_acceptRanges)] [.data] true :=
  Program.laidByTextLater.sub seatTie1 ["unicode/utf8.acceptRanges"] (by kernel_rfl) (by kernel_rfl)
theorem fnExactMap_row_tie : Rows.fnExactMapRow.laidByTextAt .later Tryd.pinned [.data, .pinned] true :=
  OpenClaim.laidByTextAt_pinned rfl rfl tie rfl rfl rfl rfl (fun y hy _e => by
    simp only [Rows.fnExactMapRow, List.zip_cons_cons, List.zip_nil_right, List.mem_cons, List.mem_nil_iff, or_false] at hy
    rcases hy with rfl | rfl
    · cases _e
    · exact ⟨pin_laid_unicode_utf8_first, by kernel_rfl⟩) fits1
theorem fnMapCount_row_tie : Rows.fnMapCountRow.laidByTextAt .later Tryd.pinned [.data, .pinned] true :=
  OpenClaim.laidByTextAt_pinned rfl rfl tie rfl rfl rfl rfl (fun y hy _e => by
    simp only [Rows.fnMapCountRow, List.zip_cons_cons, List.zip_nil_right, List.mem_cons, List.mem_nil_iff, or_false] at hy
    rcases hy with rfl | rfl
    · cases _e
    · exact ⟨pin_laid_unicode_utf8_first, by kernel_rfl⟩) fits1
theorem fnMapSelf_row_tie : Rows.fnMapSelfRow.laidByTextAt .later Tryd.pinned [.data, .pinned] true :=
  OpenClaim.laidByTextAt_pinned rfl rfl tie rfl rfl rfl rfl (fun y hy _e => by
    simp only [Rows.fnMapSelfRow, List.zip_cons_cons, List.zip_nil_right, List.mem_cons, List.mem_nil_iff, or_false] at hy
    rcases hy with rfl | rfl
    · cases _e
    · exact ⟨pin_laid_unicode_utf8_first, by kernel_rfl⟩) fits1
theorem fnMapTwice_row_tie : Rows.fnMapTwiceRow.laidByTextAt .later Tryd.pinned [.data, .pinned] true :=
  OpenClaim.laidByTextAt_pinned rfl rfl tie rfl rfl rfl rfl (fun y hy _e => by
    simp only [Rows.fnMapTwiceRow, List.zip_cons_cons, List.zip_nil_right, List.mem_cons, List.mem_nil_iff, or_false] at hy
    rcases hy with rfl | rfl
    · cases _e
    · exact ⟨pin_laid_unicode_utf8_first, by kernel_rfl⟩) fits1
theorem fnValidMap_row_tie : Rows.fnValidMapRow.laidByTextAt .later Tryd.pinned [.data, .pinned] true :=
  OpenClaim.laidByTextAt_pinned rfl rfl tie rfl rfl rfl rfl (fun y hy _e => by
    simp only [Rows.fnValidMapRow, List.zip_cons_cons, List.zip_nil_right, List.mem_cons, List.mem_nil_iff, or_false] at hy
    rcases hy with rfl | rfl
    · cases _e
    · exact ⟨pin_laid_unicode_utf8_first, by kernel_rfl⟩) fits1
theorem fnFieldsFuncDrop_row_tie : Rows.fnFieldsFuncDropRow.laidByTextAt .later Tryd.pinned [.data, .pinned] true :=
  OpenClaim.laidByTextAt_pinned rfl rfl tie rfl rfl rfl rfl (fun y hy _e => by
    simp only [Rows.fnFieldsFuncDropRow, List.zip_cons_cons, List.zip_nil_right, List.mem_cons, List.mem_nil_iff, or_false] at hy
    rcases hy with rfl | rfl
    · cases _e
    · exact ⟨pin_laid_unicode_utf8_first, by kernel_rfl⟩) fits1
theorem fnRepeatMap_row_tie : Rows.fnRepeatMapRow.laidByTextAt .later Tryd.pinned [.data, .pinned] true :=
  OpenClaim.laidByTextAt_pinned rfl rfl tie rfl rfl rfl rfl (fun y hy _e => by
    simp only [Rows.fnRepeatMapRow, List.zip_cons_cons, List.zip_nil_right, List.mem_cons, List.mem_nil_iff, or_false] at hy
    rcases hy with rfl | rfl
    · cases _e
    · exact ⟨pin_laid_unicode_utf8_first, by kernel_rfl⟩) fits1
theorem fits2 : Tryd.pinned.checked.prog.listedFits [("unicode/utf8.acceptRanges", Rows.laid_unicode_utf8_acceptRanges), ("unicode.asciiFold", Rows.laid_unicode_asciiFold), ("unicode.caseOrbit", Rows.laid_unicode_caseOrbit), ("unicode.CaseRanges", Rows.laid_unicode_CaseRanges), ("unicode/utf8.first", Rows.laid_unicode_utf8_first)] = true := by
  unfold Program.listedFits
  rw [noOwnUnsafe]
  kernel_rfl
theorem tie2 : Tryd.prog.laidByTextLater [("unicode/utf8.acceptRanges", Rows.laid_unicode_utf8_acceptRanges), ("unicode.asciiFold", Rows.laid_unicode_asciiFold), ("unicode.caseOrbit", Rows.laid_unicode_caseOrbit)] [.data, .data, .data] true :=
  Program.laidByTextLater.sub seatTie2 ["unicode/utf8.acceptRanges", "unicode.asciiFold", "unicode.caseOrbit"] (by kernel_rfl) (by kernel_rfl)
theorem fnEqualFoldIs_row_tie : Rows.fnEqualFoldIsRow.laidByTextAt .later Tryd.pinned [.data, .data, .data, .pinned, .pinned] true :=
  OpenClaim.laidByTextAt_pinned rfl rfl tie2 rfl rfl rfl rfl (fun y hy _e => by
    simp only [Rows.fnEqualFoldIsRow, List.zip_cons_cons, List.zip_nil_right, List.mem_cons, List.mem_nil_iff, or_false] at hy
    rcases hy with rfl | rfl | rfl | rfl | rfl
    · cases _e
    · cases _e
    · cases _e
    · exact ⟨pin_laid_unicode_CaseRanges, by kernel_rfl⟩
    · exact ⟨pin_laid_unicode_utf8_first, by kernel_rfl⟩) fits2
theorem fnEqualFoldSame_row_tie : Rows.fnEqualFoldSameRow.laidByTextAt .later Tryd.pinned [.data, .data, .data, .pinned, .pinned] true :=
  OpenClaim.laidByTextAt_pinned rfl rfl tie2 rfl rfl rfl rfl (fun y hy _e => by
    simp only [Rows.fnEqualFoldSameRow, List.zip_cons_cons, List.zip_nil_right, List.mem_cons, List.mem_nil_iff, or_false] at hy
    rcases hy with rfl | rfl | rfl | rfl | rfl
    · cases _e
    · cases _e
    · cases _e
    · exact ⟨pin_laid_unicode_CaseRanges, by kernel_rfl⟩
    · exact ⟨pin_laid_unicode_utf8_first, by kernel_rfl⟩) fits2
theorem fnEqualFoldSum_row_tie : Rows.fnEqualFoldSumRow.laidByTextAt .later Tryd.pinned [.data, .data, .data, .pinned, .pinned] true :=
  OpenClaim.laidByTextAt_pinned rfl rfl tie2 rfl rfl rfl rfl (fun y hy _e => by
    simp only [Rows.fnEqualFoldSumRow, List.zip_cons_cons, List.zip_nil_right, List.mem_cons, List.mem_nil_iff, or_false] at hy
    rcases hy with rfl | rfl | rfl | rfl | rfl
    · cases _e
    · cases _e
    · cases _e
    · exact ⟨pin_laid_unicode_CaseRanges, by kernel_rfl⟩
    · exact ⟨pin_laid_unicode_utf8_first, by kernel_rfl⟩) fits2
theorem fnEqualFoldMap_row_tie : Rows.fnEqualFoldMapRow.laidByTextAt .later Tryd.pinned [.data, .data, .data, .pinned, .pinned] true :=
  OpenClaim.laidByTextAt_pinned rfl rfl tie2 rfl rfl rfl rfl (fun y hy _e => by
    simp only [Rows.fnEqualFoldMapRow, List.zip_cons_cons, List.zip_nil_right, List.mem_cons, List.mem_nil_iff, or_false] at hy
    rcases hy with rfl | rfl | rfl | rfl | rfl
    · cases _e
    · cases _e
    · cases _e
    · exact ⟨pin_laid_unicode_CaseRanges, by kernel_rfl⟩
    · exact ⟨pin_laid_unicode_utf8_first, by kernel_rfl⟩) fits2
theorem fnExactMapUpto_row_tie : Rows.fnExactMapUptoRow.laidByTextAt .later Tryd.pinned [.data, .pinned] true :=
  OpenClaim.laidByTextAt_pinned rfl rfl tie rfl rfl rfl rfl (fun y hy _e => by
    simp only [Rows.fnExactMapUptoRow, List.zip_cons_cons, List.zip_nil_right, List.mem_cons, List.mem_nil_iff, or_false] at hy
    rcases hy with rfl | rfl
    · cases _e
    · exact ⟨pin_laid_unicode_utf8_first, by kernel_rfl⟩) fits1
theorem fnMapCountUpto_row_tie : Rows.fnMapCountUptoRow.laidByTextAt .later Tryd.pinned [.data, .pinned] true :=
  OpenClaim.laidByTextAt_pinned rfl rfl tie rfl rfl rfl rfl (fun y hy _e => by
    simp only [Rows.fnMapCountUptoRow, List.zip_cons_cons, List.zip_nil_right, List.mem_cons, List.mem_nil_iff, or_false] at hy
    rcases hy with rfl | rfl
    · cases _e
    · exact ⟨pin_laid_unicode_utf8_first, by kernel_rfl⟩) fits1
theorem fnMapSelfUpto_row_tie : Rows.fnMapSelfUptoRow.laidByTextAt .later Tryd.pinned [.data, .pinned] true :=
  OpenClaim.laidByTextAt_pinned rfl rfl tie rfl rfl rfl rfl (fun y hy _e => by
    simp only [Rows.fnMapSelfUptoRow, List.zip_cons_cons, List.zip_nil_right, List.mem_cons, List.mem_nil_iff, or_false] at hy
    rcases hy with rfl | rfl
    · cases _e
    · exact ⟨pin_laid_unicode_utf8_first, by kernel_rfl⟩) fits1
theorem fnMapTwiceUpto_row_tie : Rows.fnMapTwiceUptoRow.laidByTextAt .later Tryd.pinned [.data, .pinned] true :=
  OpenClaim.laidByTextAt_pinned rfl rfl tie rfl rfl rfl rfl (fun y hy _e => by
    simp only [Rows.fnMapTwiceUptoRow, List.zip_cons_cons, List.zip_nil_right, List.mem_cons, List.mem_nil_iff, or_false] at hy
    rcases hy with rfl | rfl
    · cases _e
    · exact ⟨pin_laid_unicode_utf8_first, by kernel_rfl⟩) fits1
theorem fnValidMapUpto_row_tie : Rows.fnValidMapUptoRow.laidByTextAt .later Tryd.pinned [.data, .pinned] true :=
  OpenClaim.laidByTextAt_pinned rfl rfl tie rfl rfl rfl rfl (fun y hy _e => by
    simp only [Rows.fnValidMapUptoRow, List.zip_cons_cons, List.zip_nil_right, List.mem_cons, List.mem_nil_iff, or_false] at hy
    rcases hy with rfl | rfl
    · cases _e
    · exact ⟨pin_laid_unicode_utf8_first, by kernel_rfl⟩) fits1
theorem fnFieldsFuncDropUpto_row_tie : Rows.fnFieldsFuncDropUptoRow.laidByTextAt .later Tryd.pinned [.data, .pinned] true :=
  OpenClaim.laidByTextAt_pinned rfl rfl tie rfl rfl rfl rfl (fun y hy _e => by
    simp only [Rows.fnFieldsFuncDropUptoRow, List.zip_cons_cons, List.zip_nil_right, List.mem_cons, List.mem_nil_iff, or_false] at hy
    rcases hy with rfl | rfl
    · cases _e
    · exact ⟨pin_laid_unicode_utf8_first, by kernel_rfl⟩) fits1
theorem fnRepeatMapUpto_row_tie : Rows.fnRepeatMapUptoRow.laidByTextAt .later Tryd.pinned [.data, .pinned] true :=
  OpenClaim.laidByTextAt_pinned rfl rfl tie rfl rfl rfl rfl (fun y hy _e => by
    simp only [Rows.fnRepeatMapUptoRow, List.zip_cons_cons, List.zip_nil_right, List.mem_cons, List.mem_nil_iff, or_false] at hy
    rcases hy with rfl | rfl
    · cases _e
    · exact ⟨pin_laid_unicode_utf8_first, by kernel_rfl⟩) fits1
theorem fnEqualFoldIsUpto_row_tie : Rows.fnEqualFoldIsUptoRow.laidByTextAt .later Tryd.pinned [.data, .data, .data, .pinned, .pinned] true :=
  OpenClaim.laidByTextAt_pinned rfl rfl tie2 rfl rfl rfl rfl (fun y hy _e => by
    simp only [Rows.fnEqualFoldIsUptoRow, List.zip_cons_cons, List.zip_nil_right, List.mem_cons, List.mem_nil_iff, or_false] at hy
    rcases hy with rfl | rfl | rfl | rfl | rfl
    · cases _e
    · cases _e
    · cases _e
    · exact ⟨pin_laid_unicode_CaseRanges, by kernel_rfl⟩
    · exact ⟨pin_laid_unicode_utf8_first, by kernel_rfl⟩) fits2
theorem fnEqualFoldSameUpto_row_tie : Rows.fnEqualFoldSameUptoRow.laidByTextAt .later Tryd.pinned [.data, .data, .data, .pinned, .pinned] true :=
  OpenClaim.laidByTextAt_pinned rfl rfl tie2 rfl rfl rfl rfl (fun y hy _e => by
    simp only [Rows.fnEqualFoldSameUptoRow, List.zip_cons_cons, List.zip_nil_right, List.mem_cons, List.mem_nil_iff, or_false] at hy
    rcases hy with rfl | rfl | rfl | rfl | rfl
    · cases _e
    · cases _e
    · cases _e
    · exact ⟨pin_laid_unicode_CaseRanges, by kernel_rfl⟩
    · exact ⟨pin_laid_unicode_utf8_first, by kernel_rfl⟩) fits2
theorem fnEqualFoldSumUpto_row_tie : Rows.fnEqualFoldSumUptoRow.laidByTextAt .later Tryd.pinned [.data, .data, .data, .pinned, .pinned] true :=
  OpenClaim.laidByTextAt_pinned rfl rfl tie2 rfl rfl rfl rfl (fun y hy _e => by
    simp only [Rows.fnEqualFoldSumUptoRow, List.zip_cons_cons, List.zip_nil_right, List.mem_cons, List.mem_nil_iff, or_false] at hy
    rcases hy with rfl | rfl | rfl | rfl | rfl
    · cases _e
    · cases _e
    · cases _e
    · exact ⟨pin_laid_unicode_CaseRanges, by kernel_rfl⟩
    · exact ⟨pin_laid_unicode_utf8_first, by kernel_rfl⟩) fits2
theorem fnEqualFoldMapUpto_row_tie : Rows.fnEqualFoldMapUptoRow.laidByTextAt .later Tryd.pinned [.data, .data, .data, .pinned, .pinned] true :=
  OpenClaim.laidByTextAt_pinned rfl rfl tie2 rfl rfl rfl rfl (fun y hy _e => by
    simp only [Rows.fnEqualFoldMapUptoRow, List.zip_cons_cons, List.zip_nil_right, List.mem_cons, List.mem_nil_iff, or_false] at hy
    rcases hy with rfl | rfl | rfl | rfl | rfl
    · cases _e
    · cases _e
    · cases _e
    · exact ⟨pin_laid_unicode_CaseRanges, by kernel_rfl⟩
    · exact ⟨pin_laid_unicode_utf8_first, by kernel_rfl⟩) fits2
end Go.Proofs.YtlgibcphfmjddaaDoor
