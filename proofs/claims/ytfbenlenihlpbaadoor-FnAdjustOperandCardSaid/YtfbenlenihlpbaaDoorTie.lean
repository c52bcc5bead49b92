/-
  DERIVED. GIVEN WITH THE SEED: THE PROGRAM's TIES (one call each: nine closed facts by the kernel) AND EACH ROW's TIE, after the 31st guide's Derived/Test/Toyas{Tie, Card}.lean. No idea stands in it: it is a product of the set-up. Laid BY PROGRAM, IN A SANDBOX (cutbox-door.mjs). By AI agents, Wed Nov 11 2026. No macro, syntax, notation, axiom, sorry.
-/
import Derived.Test.YtfbenlenihlpbaaDoorRows
import Derived.LaidByTextLater
import Derived.SevenTiedAt
import Derived.LaidSub
import Derived.LaidOnce
namespace Go.Proofs.YtfbenlenihlpbaaDoor
open Go
set_option maxRecDepth 100000
theorem seatTie1 : Tryd.prog.laidByTextLater [("math/bits.deBruijn32tab", Rows.laid_math_bits_deBruijn32tab), ("math/bits.deBruijn64tab", Rows.laid_math_bits_deBruijn64tab), ("internal/strconv.uint64pow10", Rows.laid_internal_strconv_uint64pow10), ("unicode/utf8.acceptRanges", Rows.laid_unicode_utf8_acceptRanges), ("strconv.ErrRange", Rows.laid_strconv_ErrRange), ("strconv.ErrSyntax", Rows.laid_strconv_ErrSyntax), ("pub-gridwork/pub/excelize.ErrColumnNumber", Rows.laid_pub_gridwork_pub_excelize_ErrColumnNumber), ("pub-gridwork/pub/excelize.ErrCoordinates", Rows.laid_pub_gridwork_pub_excelize_ErrCoordinates), ("pub-gridwork/pub/excelize.ErrMaxRows", Rows.laid_pub_gridwork_pub_excelize_ErrMaxRows), ("pub-gridwork/pub/excelize.ErrParameterInvalid", Rows.laid_pub_gridwork_pub_excelize_ErrParameterInvalid)] [.data, .data, .data, .data, .sentinel, .sentinel, .sentinel, .sentinel, .sentinel, .sentinel] true :=
  Program.laidByTextLater_by_one 153 8 257 (by kernel_rfl) (by kernel_rfl) (by kernel_rfl) (by kernel_rfl) (by kernel_rfl) (by kernel_rfl) (fun _ _ => by kernel_rfl)
theorem seatTie2 : Tryd.prog.laidByTextLater [("math/bits.deBruijn32tab", Rows.laid_math_bits_deBruijn32tab), ("math/bits.deBruijn64tab", Rows.laid_math_bits_deBruijn64tab), ("internal/strconv.uint64pow10", Rows.laid_internal_strconv_uint64pow10), ("unicode/utf8.acceptRanges", Rows.laid_unicode_utf8_acceptRanges), ("strconv.ErrRange", Rows.laid_strconv_ErrRange), ("strconv.ErrSyntax", Rows.laid_strconv_ErrSyntax), ("unicode.properties", Rows.laid_unicode_properties), ("pub-gridwork/pub/excelize.ErrColumnNumber", Rows.laid_pub_gridwork_pub_excelize_ErrColumnNumber), ("pub-gridwork/pub/excelize.ErrMaxRows", Rows.laid_pub_gridwork_pub_excelize_ErrMaxRows), ("pub-gridwork/pub/excelize.ErrParameterInvalid", Rows.laid_pub_gridwork_pub_excelize_ErrParameterInvalid)] [.data, .data, .data, .data, .sentinel, .sentinel, .data, .sentinel, .sentinel, .sentinel] true :=
  Program.laidByTextLater_by_one 153 8 257 (by kernel_rfl) (by kernel_rfl) (by kernel_rfl) (by kernel_rfl) (by kernel_rfl) (by kernel_rfl) (fun _ _ => by kernel_rfl)
theorem pin_laid_unicode_utf8_first : Tryd.pinned.checked.prog.pinnedFits "unicode/utf8.first" = true := by kernel_rfl
theorem pin_laid_unicode_Letter : Tryd.pinned.checked.prog.pinnedFits "unicode.Letter" = true := by kernel_rfl
theorem pin_laid_unicode_Number : Tryd.pinned.checked.prog.pinnedFits "unicode.Number" = true := by kernel_rfl
theorem noOwnUnsafe : Tryd.pinned.checked.prog.headLifts.contains "ownunsafe" = false := by kernel_rfl
theorem fits1 : Tryd.pinned.checked.prog.listedFits [("math/bits.deBruijn32tab", Rows.laid_math_bits_deBruijn32tab), ("math/bits.deBruijn64tab", Rows.laid_math_bits_deBruijn64tab), ("internal/strconv.uint64pow10", Rows.laid_internal_strconv_uint64pow10), ("unicode/utf8.acceptRanges", Rows.laid_unicode_utf8_acceptRanges), ("strconv.ErrRange", Rows.laid_strconv_ErrRange), ("strconv.ErrSyntax", Rows.laid_strconv_ErrSyntax), ("pub-gridwork/pub/excelize.ErrColumnNumber", Rows.laid_pub_gridwork_pub_excelize_ErrColumnNumber), ("pub-gridwork/pub/excelize.ErrMaxRows", Rows.laid_pub_gridwork_pub_excelize_ErrMaxRows), ("pub-gridwork/pub/excelize.ErrParameterInvalid", Rows.laid_pub_gridwork_pub_excelize_ErrParameterInvalid), ("unicode/utf8.first", Rows.laid_unicode_utf8_first)] = true := by
  unfold Program.listedFits
  rw [noOwnUnsafe]
  kernel_rfl
theorem tie : Tryd.prog.laidByTextLater [("math/bits.deBruijn32tab", Rows.laid_math_bits_deBruijn32tab), ("math/bits.deBruijn64tab", Rows.laid_math_bits_deBruijn64tab), ("internal/strconv.uint64pow10", Rows.laid_internal_strconv_uint64pow10), ("unicode/utf8.acceptRanges", Rows.laid_unicode_utf8_acceptRanges), ("strconv.ErrRange", Rows.laid_strconv_ErrRange), ("strconv.ErrSyntax", Rows.laid_strconv_ErrSyntax), ("pub-gridwork/pub/excelize.ErrColumnNumber", Rows.laid_pub_gridwork_pub_excelize_ErrColumnNumber), ("pub-gridwork/pub/excelize.ErrMaxRows", Rows.laid_pub_gridwork_pub_excelize_ErrMaxRows), ("pub-gridwork/pub/excelize.ErrParameterInvalid", Rows.laid_pub_gridwork_pub_excelize_ErrParameterInvalid)] [.data, .data, .data, .data, .sentinel, .sentinel, .sentinel, .sentinel, .sentinel] true :=
  Program.laidByTextLater.sub seatTie1 ["math/bits.deBruijn32tab", "math/bits.deBruijn64tab", "internal/strconv.uint64pow10", "unicode/utf8.acceptRanges", "strconv.ErrRange", "strconv.ErrSyntax", "pub-gridwork/pub/excelize.ErrColumnNumber", "pub-gridwork/pub/excelize.ErrMaxRows", "pub-gridwork/pub/excelize.ErrParameterInvalid"] (by kernel_rfl) (by kernel_rfl)
theorem fnRangeRead_row_tie : Rows.fnRangeReadRow.laidByTextAt .later Tryd.pinned [.data, .data, .data, .data, .sentinel, .sentinel, .sentinel, .sentinel, .sentinel, .pinned] true :=
  OpenClaim.laidByTextAt_pinned rfl rfl tie rfl rfl rfl rfl (fun y hy _e => by
    simp only [Rows.fnRangeReadRow, List.zip_cons_cons, List.zip_nil_right, List.mem_cons, List.mem_nil_iff, or_false] at hy
    rcases hy with rfl | rfl | rfl | rfl | rfl | rfl | rfl | rfl | rfl | rfl
    · cases _e
    · cases _e
    · cases _e
    · cases _e
    · cases _e
    · cases _e
    · cases _e
    · cases _e
    · cases _e
    · exact ⟨pin_laid_unicode_utf8_first, by kernel_rfl⟩) fits1
theorem fnOverlap_row_tie : Rows.fnOverlapRow.laidByTextAt .later Tryd.pinned [.data, .data, .data, .data, .sentinel, .sentinel, .sentinel, .sentinel, .sentinel, .pinned] true :=
  OpenClaim.laidByTextAt_pinned rfl rfl tie rfl rfl rfl rfl (fun y hy _e => by
    simp only [Rows.fnOverlapRow, List.zip_cons_cons, List.zip_nil_right, List.mem_cons, List.mem_nil_iff, or_false] at hy
    rcases hy with rfl | rfl | rfl | rfl | rfl | rfl | rfl | rfl | rfl | rfl
    · cases _e
    · cases _e
    · cases _e
    · cases _e
    · cases _e
    · cases _e
    · cases _e
    · cases _e
    · cases _e
    · exact ⟨pin_laid_unicode_utf8_first, by kernel_rfl⟩) fits1
theorem fnCols_row_tie : Rows.fnColsRow.laidByTextAt .later Tryd.pinned [.data, .data, .data, .data, .sentinel, .sentinel, .sentinel, .sentinel, .sentinel, .pinned] true :=
  OpenClaim.laidByTextAt_pinned rfl rfl tie rfl rfl rfl rfl (fun y hy _e => by
    simp only [Rows.fnColsRow, List.zip_cons_cons, List.zip_nil_right, List.mem_cons, List.mem_nil_iff, or_false] at hy
    rcases hy with rfl | rfl | rfl | rfl | rfl | rfl | rfl | rfl | rfl | rfl
    · cases _e
    · cases _e
    · cases _e
    · cases _e
    · cases _e
    · cases _e
    · cases _e
    · cases _e
    · cases _e
    · exact ⟨pin_laid_unicode_utf8_first, by kernel_rfl⟩) fits1
theorem fits2 : Tryd.pinned.checked.prog.listedFits [("math/bits.deBruijn32tab", Rows.laid_math_bits_deBruijn32tab), ("math/bits.deBruijn64tab", Rows.laid_math_bits_deBruijn64tab), ("internal/strconv.uint64pow10", Rows.laid_internal_strconv_uint64pow10), ("unicode/utf8.acceptRanges", Rows.laid_unicode_utf8_acceptRanges), ("strconv.ErrRange", Rows.laid_strconv_ErrRange), ("strconv.ErrSyntax", Rows.laid_strconv_ErrSyntax), ("pub-gridwork/pub/excelize.ErrColumnNumber", Rows.laid_pub_gridwork_pub_excelize_ErrColumnNumber), ("pub-gridwork/pub/excelize.ErrCoordinates", Rows.laid_pub_gridwork_pub_excelize_ErrCoordinates), ("pub-gridwork/pub/excelize.ErrMaxRows", Rows.laid_pub_gridwork_pub_excelize_ErrMaxRows), ("pub-gridwork/pub/excelize.ErrParameterInvalid", Rows.laid_pub_gridwork_pub_excelize_ErrParameterInvalid), ("unicode/utf8.first", Rows.laid_unicode_utf8_first)] = true := by
  unfold Program.listedFits
  rw [noOwnUnsafe]
  kernel_rfl
theorem tie2 : Tryd.prog.laidByTextLater [("math/bits.deBruijn32tab", Rows.laid_math_bits_deBruijn32tab), ("math/bits.deBruijn64tab", Rows.laid_math_bits_deBruijn64tab), ("internal/strconv.uint64pow10", Rows.laid_internal_strconv_uint64pow10), ("unicode/utf8.acceptRanges", Rows.laid_unicode_utf8_acceptRanges), ("strconv.ErrRange", Rows.laid_strconv_ErrRange), ("strconv.ErrSyntax", Rows.laid_strconv_ErrSyntax), ("pub-gridwork/pub/excelize.ErrColumnNumber", Rows.laid_pub_gridwork_pub_excelize_ErrColumnNumber), ("pub-gridwork/pub/excelize.ErrCoordinates", Rows.laid_pub_gridwork_pub_excelize_ErrCoordinates), ("pub-gridwork/pub/excelize.ErrMaxRows", Rows.laid_pub_gridwork_pub_excelize_ErrMaxRows), ("pub-gridwork/pub/excelize.ErrParameterInvalid", Rows.laid_pub_gridwork_pub_excelize_ErrParameterInvalid)] [.data, .data, .data, .data, .sentinel, .sentinel, .sentinel, .sentinel, .sentinel, .sentinel] true :=
  Program.laidByTextLater.sub seatTie1 ["math/bits.deBruijn32tab", "math/bits.deBruijn64tab", "internal/strconv.uint64pow10", "unicode/utf8.acceptRanges", "strconv.ErrRange", "strconv.ErrSyntax", "pub-gridwork/pub/excelize.ErrColumnNumber", "pub-gridwork/pub/excelize.ErrCoordinates", "pub-gridwork/pub/excelize.ErrMaxRows", "pub-gridwork/pub/excelize.ErrParameterInvalid"] (by kernel_rfl) (by kernel_rfl)
theorem fnSquash_row_tie : Rows.fnSquashRow.laidByTextAt .later Tryd.pinned [.data, .data, .data, .data, .sentinel, .sentinel, .sentinel, .sentinel, .sentinel, .sentinel, .pinned] true :=
  OpenClaim.laidByTextAt_pinned rfl rfl tie2 rfl rfl rfl rfl (fun y hy _e => by
    simp only [Rows.fnSquashRow, List.zip_cons_cons, List.zip_nil_right, List.mem_cons, List.mem_nil_iff, or_false] at hy
    rcases hy with rfl | rfl | rfl | rfl | rfl | rfl | rfl | rfl | rfl | rfl | rfl
    · cases _e
    · cases _e
    · cases _e
    · cases _e
    · cases _e
    · cases _e
    · cases _e
    · cases _e
    · cases _e
    · cases _e
    · exact ⟨pin_laid_unicode_utf8_first, by kernel_rfl⟩) fits2
theorem fnAdjustRef_row_tie : Rows.fnAdjustRefRow.laidByTextAt .later Tryd.pinned [.data, .data, .data, .data, .sentinel, .sentinel, .sentinel, .sentinel, .sentinel, .sentinel, .pinned] true :=
  OpenClaim.laidByTextAt_pinned rfl rfl tie2 rfl rfl rfl rfl (fun y hy _e => by
    simp only [Rows.fnAdjustRefRow, List.zip_cons_cons, List.zip_nil_right, List.mem_cons, List.mem_nil_iff, or_false] at hy
    rcases hy with rfl | rfl | rfl | rfl | rfl | rfl | rfl | rfl | rfl | rfl | rfl
    · cases _e
    · cases _e
    · cases _e
    · cases _e
    · cases _e
    · cases _e
    · cases _e
    · cases _e
    · cases _e
    · cases _e
    · exact ⟨pin_laid_unicode_utf8_first, by kernel_rfl⟩) fits2
theorem fits3 : Tryd.pinned.checked.prog.listedFits [("math/bits.deBruijn32tab", Rows.laid_math_bits_deBruijn32tab), ("math/bits.deBruijn64tab", Rows.laid_math_bits_deBruijn64tab), ("internal/strconv.uint64pow10", Rows.laid_internal_strconv_uint64pow10), ("unicode/utf8.acceptRanges", Rows.laid_unicode_utf8_acceptRanges), ("strconv.ErrRange", Rows.laid_strconv_ErrRange), ("strconv.ErrSyntax", Rows.laid_strconv_ErrSyntax), ("unicode.properties", Rows.laid_unicode_properties), ("pub-gridwork/pub/excelize.ErrColumnNumber", Rows.laid_pub_gridwork_pub_excelize_ErrColumnNumber), ("pub-gridwork/pub/excelize.ErrMaxRows", Rows.laid_pub_gridwork_pub_excelize_ErrMaxRows), ("pub-gridwork/pub/excelize.ErrParameterInvalid", Rows.laid_pub_gridwork_pub_excelize_ErrParameterInvalid), ("unicode.Letter", Rows.laid_unicode_Letter), ("unicode.Number", Rows.laid_unicode_Number), ("unicode/utf8.first", Rows.laid_unicode_utf8_first)] = true := by
  unfold Program.listedFits
  rw [noOwnUnsafe]
  kernel_rfl
theorem tie3 : Tryd.prog.laidByTextLater [("math/bits.deBruijn32tab", Rows.laid_math_bits_deBruijn32tab), ("math/bits.deBruijn64tab", Rows.laid_math_bits_deBruijn64tab), ("internal/strconv.uint64pow10", Rows.laid_internal_strconv_uint64pow10), ("unicode/utf8.acceptRanges", Rows.laid_unicode_utf8_acceptRanges), ("strconv.ErrRange", Rows.laid_strconv_ErrRange), ("strconv.ErrSyntax", Rows.laid_strconv_ErrSyntax), ("unicode.properties", Rows.laid_unicode_properties), ("pub-gridwork/pub/excelize.ErrColumnNumber", Rows.laid_pub_gridwork_pub_excelize_ErrColumnNumber), ("pub-gridwork/pub/excelize.ErrMaxRows", Rows.laid_pub_gridwork_pub_excelize_ErrMaxRows), ("pub-gridwork/pub/excelize.ErrParameterInvalid", Rows.laid_pub_gridwork_pub_excelize_ErrParameterInvalid)] [.data, .data, .data, .data, .sentinel, .sentinel, .data, .sentinel, .sentinel, .sentinel] true :=
  Program.laidByTextLater.sub seatTie2 ["math/bits.deBruijn32tab", "math/bits.deBruijn64tab", "internal/strconv.uint64pow10", "unicode/utf8.acceptRanges", "strconv.ErrRange", "strconv.ErrSyntax", "unicode.properties", "pub-gridwork/pub/excelize.ErrColumnNumber", "pub-gridwork/pub/excelize.ErrMaxRows", "pub-gridwork/pub/excelize.ErrParameterInvalid"] (by kernel_rfl) (by kernel_rfl)
theorem fnAdjustOperand_row_tie : Rows.fnAdjustOperandRow.laidByTextAt .later Tryd.pinned [.data, .data, .data, .data, .sentinel, .sentinel, .data, .sentinel, .sentinel, .sentinel, .pinned, .pinned, .pinned] true :=
  OpenClaim.laidByTextAt_pinned rfl rfl tie3 rfl rfl rfl rfl (fun y hy _e => by
    simp only [Rows.fnAdjustOperandRow, List.zip_cons_cons, List.zip_nil_right, List.mem_cons, List.mem_nil_iff, or_false] at hy
    rcases hy with rfl | rfl | rfl | rfl | rfl | rfl | rfl | rfl | rfl | rfl | rfl | rfl | rfl
    · cases _e
    · cases _e
    · cases _e
    · cases _e
    · cases _e
    · cases _e
    · cases _e
    · cases _e
    · cases _e
    · cases _e
    · exact ⟨pin_laid_unicode_Letter, by kernel_rfl⟩
    · exact ⟨pin_laid_unicode_Number, by kernel_rfl⟩
    · exact ⟨pin_laid_unicode_utf8_first, by kernel_rfl⟩) fits3
theorem fnRename_row_tie : Rows.fnRenameRow.laidByTextAt .later Tryd.pinned [.data, .data, .data, .data, .sentinel, .sentinel, .data, .sentinel, .sentinel, .sentinel, .pinned, .pinned, .pinned] true :=
  OpenClaim.laidByTextAt_pinned rfl rfl tie3 rfl rfl rfl rfl (fun y hy _e => by
    simp only [Rows.fnRenameRow, List.zip_cons_cons, List.zip_nil_right, List.mem_cons, List.mem_nil_iff, or_false] at hy
    rcases hy with rfl | rfl | rfl | rfl | rfl | rfl | rfl | rfl | rfl | rfl | rfl | rfl | rfl
    · cases _e
    · cases _e
    · cases _e
    · cases _e
    · cases _e
    · cases _e
    · cases _e
    · cases _e
    · cases _e
    · cases _e
    · exact ⟨pin_laid_unicode_Letter, by kernel_rfl⟩
    · exact ⟨pin_laid_unicode_Number, by kernel_rfl⟩
    · exact ⟨pin_laid_unicode_utf8_first, by kernel_rfl⟩) fits3
theorem fnRangeReadUpto_row_tie : Rows.fnRangeReadUptoRow.laidByTextAt .later Tryd.pinned [.data, .data, .data, .data, .sentinel, .sentinel, .sentinel, .sentinel, .sentinel, .pinned] true :=
  OpenClaim.laidByTextAt_pinned rfl rfl tie rfl rfl rfl rfl (fun y hy _e => by
    simp only [Rows.fnRangeReadUptoRow, List.zip_cons_cons, List.zip_nil_right, List.mem_cons, List.mem_nil_iff, or_false] at hy
    rcases hy with rfl | rfl | rfl | rfl | rfl | rfl | rfl | rfl | rfl | rfl
    · cases _e
    · cases _e
    · cases _e
    · cases _e
    · cases _e
    · cases _e
    · cases _e
    · cases _e
    · cases _e
    · exact ⟨pin_laid_unicode_utf8_first, by kernel_rfl⟩) fits1
theorem fnOverlapUpto_row_tie : Rows.fnOverlapUptoRow.laidByTextAt .later Tryd.pinned [.data, .data, .data, .data, .sentinel, .sentinel, .sentinel, .sentinel, .sentinel, .pinned] true :=
  OpenClaim.laidByTextAt_pinned rfl rfl tie rfl rfl rfl rfl (fun y hy _e => by
    simp only [Rows.fnOverlapUptoRow, List.zip_cons_cons, List.zip_nil_right, List.mem_cons, List.mem_nil_iff, or_false] at hy
    rcases hy with rfl | rfl | rfl | rfl | rfl | rfl | rfl | rfl | rfl | rfl
    · cases _e
    · cases _e
    · cases _e
    · cases _e
    · cases _e
    · cases _e
    · cases _e
    · cases _e
    · cases _e
    · exact ⟨pin_laid_unicode_utf8_first, by kernel_rfl⟩) fits1
theorem fnColsUpto_row_tie : Rows.fnColsUptoRow.laidByTextAt .later Tryd.pinned [.data, .data, .data, .data, .sentinel, .sentinel, .sentinel, .sentinel, .sentinel, .pinned] true :=
  OpenClaim.laidByTextAt_pinned rfl rfl tie rfl rfl rfl rfl (fun y hy _e => by
    simp only [Rows.fnColsUptoRow, List.zip_cons_cons, List.zip_nil_right, List.mem_cons, List.mem_nil_iff, or_false] at hy
    rcases hy with rfl | rfl | rfl | rfl | rfl | rfl | rfl | rfl | rfl | rfl
    · cases _e
    · cases _e
    · cases _e
    · cases _e
    · cases _e
    · cases _e
    · cases _e
    · cases _e
    · cases _e
    · exact ⟨pin_laid_unicode_utf8_first, by kernel_rfl⟩) fits1
theorem fnSquashUpto_row_tie : Rows.fnSquashUptoRow.laidByTextAt .later Tryd.pinned [.data, .data, .data, .data, .sentinel, .sentinel, .sentinel, .sentinel, .sentinel, .sentinel, .pinned] true :=
  OpenClaim.laidByTextAt_pinned rfl rfl tie2 rfl rfl rfl rfl (fun y hy _e => by
    simp only [Rows.fnSquashUptoRow, List.zip_cons_cons, List.zip_nil_right, List.mem_cons, List.mem_nil_iff, or_false] at hy
    rcases hy with rfl | rfl | rfl | rfl | rfl | rfl | rfl | rfl | rfl | rfl | rfl
    · cases _e
    · cases _e
    · cases _e
    · cases _e
    · cases _e
    · cases _e
    · cases _e
    · cases _e
    · cases _e
    · cases _e
    · exact ⟨pin_laid_unicode_utf8_first, by kernel_rfl⟩) fits2
theorem fnAdjustRefUpto_row_tie : Rows.fnAdjustRefUptoRow.laidByTextAt .later Tryd.pinned [.data, .data, .data, .data, .sentinel, .sentinel, .sentinel, .sentinel, .sentinel, .sentinel, .pinned] true :=
  OpenClaim.laidByTextAt_pinned rfl rfl tie2 rfl rfl rfl rfl (fun y hy _e => by
    simp only [Rows.fnAdjustRefUptoRow, List.zip_cons_cons, List.zip_nil_right, List.mem_cons, List.mem_nil_iff, or_false] at hy
    rcases hy with rfl | rfl | rfl | rfl | rfl | rfl | rfl | rfl | rfl | rfl | rfl
    · cases _e
    · cases _e
    · cases _e
    · cases _e
    · cases _e
    · cases _e
    · cases _e
    · cases _e
    · cases _e
    · cases _e
    · exact ⟨pin_laid_unicode_utf8_first, by kernel_rfl⟩) fits2
theorem fnAdjustOperandUpto_row_tie : Rows.fnAdjustOperandUptoRow.laidByTextAt .later Tryd.pinned [.data, .data, .data, .data, .sentinel, .sentinel, .data, .sentinel, .sentinel, .sentinel, .pinned, .pinned, .pinned] true :=
  OpenClaim.laidByTextAt_pinned rfl rfl tie3 rfl rfl rfl rfl (fun y hy _e => by
    simp only [Rows.fnAdjustOperandUptoRow, List.zip_cons_cons, List.zip_nil_right, List.mem_cons, List.mem_nil_iff, or_false] at hy
    rcases hy with rfl | rfl | rfl | rfl | rfl | rfl | rfl | rfl | rfl | rfl | rfl | rfl | rfl
    · cases _e
    · cases _e
    · cases _e
    · cases _e
    · cases _e
    · cases _e
    · cases _e
    · cases _e
    · cases _e
    · cases _e
    · exact ⟨pin_laid_unicode_Letter, by kernel_rfl⟩
    · exact ⟨pin_laid_unicode_Number, by kernel_rfl⟩
    · exact ⟨pin_laid_unicode_utf8_first, by kernel_rfl⟩) fits3
theorem fnRenameUpto_row_tie : Rows.fnRenameUptoRow.laidByTextAt .later Tryd.pinned [.data, .data, .data, .data, .sentinel, .sentinel, .data, .sentinel, .sentinel, .sentinel, .pinned, .pinned, .pinned] true :=
  OpenClaim.laidByTextAt_pinned rfl rfl tie3 rfl rfl rfl rfl (fun y hy _e => by
    simp only [Rows.fnRenameUptoRow, List.zip_cons_cons, List.zip_nil_right, List.mem_cons, List.mem_nil_iff, or_false] at hy
    rcases hy with rfl | rfl | rfl | rfl | rfl | rfl | rfl | rfl | rfl | rfl | rfl | rfl | rfl
    · cases _e
    · cases _e
    · cases _e
    · cases _e
    · cases _e
    · cases _e
    · cases _e
    · cases _e
    · cases _e
    · cases _e
    · exact ⟨pin_laid_unicode_Letter, by kernel_rfl⟩
    · exact ⟨pin_laid_unicode_Number, by kernel_rfl⟩
    · exact ⟨pin_laid_unicode_utf8_first, by kernel_rfl⟩) fits3
end Go.Proofs.YtfbenlenihlpbaaDoor
