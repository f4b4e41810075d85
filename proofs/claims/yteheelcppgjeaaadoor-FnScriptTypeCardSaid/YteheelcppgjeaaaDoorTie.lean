/-
  DERIVED. GIVEN WITH THE SEED: THE PROGRAM's TIES (one call each: nine closed facts by the kernel) AND EACH ROW's TIE, after the 31st guide's Derived/Test/Toyas{Tie, Card}.lean. No idea stands in it: it is a product of the set-up. Laid BY PROGRAM, IN A SANDBOX (cutbox-door.mjs). By AI agents, Wed Nov 11 2026. No macro, syntax, notation, axiom, sorry.
-/
import Derived.Test.YteheelcppgjeaaaDoorRows
import Derived.LaidByTextLater
import Derived.SevenTiedAt
import Derived.LaidSub
import Derived.LaidOnce
namespace Go.Proofs.YteheelcppgjeaaaDoor
open Go
set_option maxRecDepth 100000
theorem seatTie1 : Tryd.prog.laidByTextLater [("math/bits.deBruijn32tab", Rows.laid_math_bits_deBruijn32tab), ("math/bits.deBruijn64tab", Rows.laid_math_bits_deBruijn64tab), ("internal/strconv.uint64pow10", Rows.laid_internal_strconv_uint64pow10), ("unicode/utf8.acceptRanges", Rows.laid_unicode_utf8_acceptRanges), ("htmlescapers/pub/htmltemplate.lowUnicodeReplacementTable", Rows.laid_htmlescapers_pub_htmltemplate_lowUnicodeReplacementTable)] [.data, .data, .data, .data, .data] true :=
  Program.laidByTextLater_by_one 63 8 257 (by kernel_rfl) (by kernel_rfl) (by kernel_rfl) (by kernel_rfl) (by kernel_rfl) (by kernel_rfl) (fun _ _ => by kernel_rfl)
theorem seatTie2 : Tryd.prog.laidByTextLater [("math/bits.deBruijn32tab", Rows.laid_math_bits_deBruijn32tab), ("math/bits.deBruijn64tab", Rows.laid_math_bits_deBruijn64tab), ("internal/strconv.uint64pow10", Rows.laid_internal_strconv_uint64pow10), ("unicode/utf8.acceptRanges", Rows.laid_unicode_utf8_acceptRanges), ("unicode.White_Space", Rows.laid_unicode_White_Space), ("strings.asciiSpace", Rows.laid_strings_asciiSpace)] [.data, .data, .data, .data, .listed, .data] true :=
  Program.laidByTextLater_by_one 63 8 257 (by kernel_rfl) (by kernel_rfl) (by kernel_rfl) (by kernel_rfl) (by kernel_rfl) (by kernel_rfl) (fun _ _ => by kernel_rfl)
theorem pin_laid_unicode_utf8_first : Tryd.pinned.checked.prog.pinnedFits "unicode/utf8.first" = true := by kernel_rfl
theorem pin_laid_unicode_CaseRanges : Tryd.pinned.checked.prog.pinnedFits "unicode.CaseRanges" = true := by kernel_rfl
theorem noOwnUnsafe : Tryd.pinned.checked.prog.headLifts.contains "ownunsafe" = false := by kernel_rfl
theorem fits1 : Tryd.pinned.checked.prog.listedFits [("math/bits.deBruijn32tab", Rows.laid_math_bits_deBruijn32tab), ("math/bits.deBruijn64tab", Rows.laid_math_bits_deBruijn64tab), ("internal/strconv.uint64pow10", Rows.laid_internal_strconv_uint64pow10), ("unicode/utf8.acceptRanges", Rows.laid_unicode_utf8_acceptRanges), ("unicode/utf8.first", Rows.laid_unicode_utf8_first)] = true := by
  unfold Program.listedFits
  rw [noOwnUnsafe]
  kernel_rfl
theorem tie : Tryd.prog.laidByTextLater [("math/bits.deBruijn32tab", Rows.laid_math_bits_deBruijn32tab), ("math/bits.deBruijn64tab", Rows.laid_math_bits_deBruijn64tab), ("internal/strconv.uint64pow10", Rows.laid_internal_strconv_uint64pow10), ("unicode/utf8.acceptRanges", Rows.laid_unicode_utf8_acceptRanges)] [.data, .data, .data, .data] true :=
  Program.laidByTextLater.sub seatTie1 ["math/bits.deBruijn32tab", "math/bits.deBruijn64tab", "internal/strconv.uint64pow10", "unicode/utf8.acceptRanges"] (by kernel_rfl) (by kernel_rfl)
theorem fnBare_row_tie : Rows.fnBareRow.laidByTextAt .later Tryd.pinned [.data, .data, .data, .data, .pinned] true :=
  OpenClaim.laidByTextAt_pinned rfl rfl tie rfl rfl rfl rfl (fun y hy _e => by
    simp only [Rows.fnBareRow, List.zip_cons_cons, List.zip_nil_right, List.mem_cons, List.mem_nil_iff, or_false] at hy
    rcases hy with rfl | rfl | rfl | rfl | rfl
    · cases _e
    · cases _e
    · cases _e
    · cases _e
    · exact ⟨pin_laid_unicode_utf8_first, by kernel_rfl⟩) fits1
theorem fnText_row_tie : Rows.fnTextRow.laidByTextAt .later Tryd.pinned [.data, .data, .data, .data, .pinned] true :=
  OpenClaim.laidByTextAt_pinned rfl rfl tie rfl rfl rfl rfl (fun y hy _e => by
    simp only [Rows.fnTextRow, List.zip_cons_cons, List.zip_nil_right, List.mem_cons, List.mem_nil_iff, or_false] at hy
    rcases hy with rfl | rfl | rfl | rfl | rfl
    · cases _e
    · cases _e
    · cases _e
    · cases _e
    · exact ⟨pin_laid_unicode_utf8_first, by kernel_rfl⟩) fits1
theorem fnComment_row_tie : Rows.fnCommentRow.laidByTextAt .later Tryd.pinned [.data, .data, .data, .data, .pinned] true :=
  OpenClaim.laidByTextAt_pinned rfl rfl tie rfl rfl rfl rfl (fun y hy _e => by
    simp only [Rows.fnCommentRow, List.zip_cons_cons, List.zip_nil_right, List.mem_cons, List.mem_nil_iff, or_false] at hy
    rcases hy with rfl | rfl | rfl | rfl | rfl
    · cases _e
    · cases _e
    · cases _e
    · cases _e
    · exact ⟨pin_laid_unicode_utf8_first, by kernel_rfl⟩) fits1
theorem fnKept_row_tie : Rows.fnKeptRow.laidByTextAt .later Tryd.pinned [.data, .data, .data, .data, .pinned] true :=
  OpenClaim.laidByTextAt_pinned rfl rfl tie rfl rfl rfl rfl (fun y hy _e => by
    simp only [Rows.fnKeptRow, List.zip_cons_cons, List.zip_nil_right, List.mem_cons, List.mem_nil_iff, or_false] at hy
    rcases hy with rfl | rfl | rfl | rfl | rfl
    · cases _e
    · cases _e
    · cases _e
    · cases _e
    · exact ⟨pin_laid_unicode_utf8_first, by kernel_rfl⟩) fits1
theorem fnRCData_row_tie : Rows.fnRCDataRow.laidByTextAt .later Tryd.pinned [.data, .data, .data, .data, .pinned] true :=
  OpenClaim.laidByTextAt_pinned rfl rfl tie rfl rfl rfl rfl (fun y hy _e => by
    simp only [Rows.fnRCDataRow, List.zip_cons_cons, List.zip_nil_right, List.mem_cons, List.mem_nil_iff, or_false] at hy
    rcases hy with rfl | rfl | rfl | rfl | rfl
    · cases _e
    · cases _e
    · cases _e
    · cases _e
    · exact ⟨pin_laid_unicode_utf8_first, by kernel_rfl⟩) fits1
theorem fnSlash_row_tie : Rows.fnSlashRow.laidByTextAt .later Tryd.pinned [.data, .data, .data, .data, .pinned] true :=
  OpenClaim.laidByTextAt_pinned rfl rfl tie rfl rfl rfl rfl (fun y hy _e => by
    simp only [Rows.fnSlashRow, List.zip_cons_cons, List.zip_nil_right, List.mem_cons, List.mem_nil_iff, or_false] at hy
    rcases hy with rfl | rfl | rfl | rfl | rfl
    · cases _e
    · cases _e
    · cases _e
    · cases _e
    · exact ⟨pin_laid_unicode_utf8_first, by kernel_rfl⟩) fits1
theorem fits2 : Tryd.pinned.checked.prog.listedFits [("math/bits.deBruijn32tab", Rows.laid_math_bits_deBruijn32tab), ("math/bits.deBruijn64tab", Rows.laid_math_bits_deBruijn64tab), ("internal/strconv.uint64pow10", Rows.laid_internal_strconv_uint64pow10), ("unicode/utf8.acceptRanges", Rows.laid_unicode_utf8_acceptRanges), ("htmlescapers/pub/htmltemplate.lowUnicodeReplacementTable", Rows.laid_htmlescapers_pub_htmltemplate_lowUnicodeReplacementTable), ("unicode/utf8.first", Rows.laid_unicode_utf8_first)] = true := by
  unfold Program.listedFits
  rw [noOwnUnsafe]
  kernel_rfl
theorem tie2 : Tryd.prog.laidByTextLater [("math/bits.deBruijn32tab", Rows.laid_math_bits_deBruijn32tab), ("math/bits.deBruijn64tab", Rows.laid_math_bits_deBruijn64tab), ("internal/strconv.uint64pow10", Rows.laid_internal_strconv_uint64pow10), ("unicode/utf8.acceptRanges", Rows.laid_unicode_utf8_acceptRanges), ("htmlescapers/pub/htmltemplate.lowUnicodeReplacementTable", Rows.laid_htmlescapers_pub_htmltemplate_lowUnicodeReplacementTable)] [.data, .data, .data, .data, .data] true :=
  Program.laidByTextLater.sub seatTie1 ["math/bits.deBruijn32tab", "math/bits.deBruijn64tab", "internal/strconv.uint64pow10", "unicode/utf8.acceptRanges", "htmlescapers/pub/htmltemplate.lowUnicodeReplacementTable"] (by kernel_rfl) (by kernel_rfl)
theorem fnTemplateLiteral_row_tie : Rows.fnTemplateLiteralRow.laidByTextAt .later Tryd.pinned [.data, .data, .data, .data, .data, .pinned] true :=
  OpenClaim.laidByTextAt_pinned rfl rfl tie2 rfl rfl rfl rfl (fun y hy _e => by
    simp only [Rows.fnTemplateLiteralRow, List.zip_cons_cons, List.zip_nil_right, List.mem_cons, List.mem_nil_iff, or_false] at hy
    rcases hy with rfl | rfl | rfl | rfl | rfl | rfl
    · cases _e
    · cases _e
    · cases _e
    · cases _e
    · cases _e
    · exact ⟨pin_laid_unicode_utf8_first, by kernel_rfl⟩) fits2
theorem fnPattern_row_tie : Rows.fnPatternRow.laidByTextAt .later Tryd.pinned [.data, .data, .data, .data, .data, .pinned] true :=
  OpenClaim.laidByTextAt_pinned rfl rfl tie2 rfl rfl rfl rfl (fun y hy _e => by
    simp only [Rows.fnPatternRow, List.zip_cons_cons, List.zip_nil_right, List.mem_cons, List.mem_nil_iff, or_false] at hy
    rcases hy with rfl | rfl | rfl | rfl | rfl | rfl
    · cases _e
    · cases _e
    · cases _e
    · cases _e
    · cases _e
    · exact ⟨pin_laid_unicode_utf8_first, by kernel_rfl⟩) fits2
theorem fnString_row_tie : Rows.fnStringRow.laidByTextAt .later Tryd.pinned [.data, .data, .data, .data, .data, .pinned] true :=
  OpenClaim.laidByTextAt_pinned rfl rfl tie2 rfl rfl rfl rfl (fun y hy _e => by
    simp only [Rows.fnStringRow, List.zip_cons_cons, List.zip_nil_right, List.mem_cons, List.mem_nil_iff, or_false] at hy
    rcases hy with rfl | rfl | rfl | rfl | rfl | rfl
    · cases _e
    · cases _e
    · cases _e
    · cases _e
    · cases _e
    · exact ⟨pin_laid_unicode_utf8_first, by kernel_rfl⟩) fits2
theorem fits3 : Tryd.pinned.checked.prog.listedFits [("math/bits.deBruijn32tab", Rows.laid_math_bits_deBruijn32tab), ("math/bits.deBruijn64tab", Rows.laid_math_bits_deBruijn64tab), ("internal/strconv.uint64pow10", Rows.laid_internal_strconv_uint64pow10), ("unicode/utf8.acceptRanges", Rows.laid_unicode_utf8_acceptRanges), ("unicode.White_Space", Rows.laid_unicode_White_Space), ("strings.asciiSpace", Rows.laid_strings_asciiSpace), ("unicode.CaseRanges", Rows.laid_unicode_CaseRanges), ("unicode/utf8.first", Rows.laid_unicode_utf8_first)] = true := by
  unfold Program.listedFits
  rw [noOwnUnsafe]
  kernel_rfl
theorem tie3 : Tryd.prog.laidByTextLater [("math/bits.deBruijn32tab", Rows.laid_math_bits_deBruijn32tab), ("math/bits.deBruijn64tab", Rows.laid_math_bits_deBruijn64tab), ("internal/strconv.uint64pow10", Rows.laid_internal_strconv_uint64pow10), ("unicode/utf8.acceptRanges", Rows.laid_unicode_utf8_acceptRanges), ("unicode.White_Space", Rows.laid_unicode_White_Space), ("strings.asciiSpace", Rows.laid_strings_asciiSpace)] [.data, .data, .data, .data, .listed, .data] true :=
  Program.laidByTextLater.sub seatTie2 ["math/bits.deBruijn32tab", "math/bits.deBruijn64tab", "internal/strconv.uint64pow10", "unicode/utf8.acceptRanges", "unicode.White_Space", "strings.asciiSpace"] (by kernel_rfl) (by kernel_rfl)
theorem fnScriptType_row_tie : Rows.fnScriptTypeRow.laidByTextAt .later Tryd.pinned [.data, .data, .data, .data, .listed, .data, .pinned, .pinned] true :=
  OpenClaim.laidByTextAt_pinned rfl rfl tie3 rfl rfl rfl rfl (fun y hy _e => by
    simp only [Rows.fnScriptTypeRow, List.zip_cons_cons, List.zip_nil_right, List.mem_cons, List.mem_nil_iff, or_false] at hy
    rcases hy with rfl | rfl | rfl | rfl | rfl | rfl | rfl | rfl
    · cases _e
    · cases _e
    · cases _e
    · cases _e
    · cases _e
    · cases _e
    · exact ⟨pin_laid_unicode_CaseRanges, by kernel_rfl⟩
    · exact ⟨pin_laid_unicode_utf8_first, by kernel_rfl⟩) fits3
theorem fnBareUpto_row_tie : Rows.fnBareUptoRow.laidByTextAt .later Tryd.pinned [.data, .data, .data, .data, .pinned] true :=
  OpenClaim.laidByTextAt_pinned rfl rfl tie rfl rfl rfl rfl (fun y hy _e => by
    simp only [Rows.fnBareUptoRow, List.zip_cons_cons, List.zip_nil_right, List.mem_cons, List.mem_nil_iff, or_false] at hy
    rcases hy with rfl | rfl | rfl | rfl | rfl
    · cases _e
    · cases _e
    · cases _e
    · cases _e
    · exact ⟨pin_laid_unicode_utf8_first, by kernel_rfl⟩) fits1
theorem fnTextUpto_row_tie : Rows.fnTextUptoRow.laidByTextAt .later Tryd.pinned [.data, .data, .data, .data, .pinned] true :=
  OpenClaim.laidByTextAt_pinned rfl rfl tie rfl rfl rfl rfl (fun y hy _e => by
    simp only [Rows.fnTextUptoRow, List.zip_cons_cons, List.zip_nil_right, List.mem_cons, List.mem_nil_iff, or_false] at hy
    rcases hy with rfl | rfl | rfl | rfl | rfl
    · cases _e
    · cases _e
    · cases _e
    · cases _e
    · exact ⟨pin_laid_unicode_utf8_first, by kernel_rfl⟩) fits1
theorem fnCommentUpto_row_tie : Rows.fnCommentUptoRow.laidByTextAt .later Tryd.pinned [.data, .data, .data, .data, .pinned] true :=
  OpenClaim.laidByTextAt_pinned rfl rfl tie rfl rfl rfl rfl (fun y hy _e => by
    simp only [Rows.fnCommentUptoRow, List.zip_cons_cons, List.zip_nil_right, List.mem_cons, List.mem_nil_iff, or_false] at hy
    rcases hy with rfl | rfl | rfl | rfl | rfl
    · cases _e
    · cases _e
    · cases _e
    · cases _e
    · exact ⟨pin_laid_unicode_utf8_first, by kernel_rfl⟩) fits1
theorem fnKeptUpto_row_tie : Rows.fnKeptUptoRow.laidByTextAt .later Tryd.pinned [.data, .data, .data, .data, .pinned] true :=
  OpenClaim.laidByTextAt_pinned rfl rfl tie rfl rfl rfl rfl (fun y hy _e => by
    simp only [Rows.fnKeptUptoRow, List.zip_cons_cons, List.zip_nil_right, List.mem_cons, List.mem_nil_iff, or_false] at hy
    rcases hy with rfl | rfl | rfl | rfl | rfl
    · cases _e
    · cases _e
    · cases _e
    · cases _e
    · exact ⟨pin_laid_unicode_utf8_first, by kernel_rfl⟩) fits1
theorem fnRCDataUpto_row_tie : Rows.fnRCDataUptoRow.laidByTextAt .later Tryd.pinned [.data, .data, .data, .data, .pinned] true :=
  OpenClaim.laidByTextAt_pinned rfl rfl tie rfl rfl rfl rfl (fun y hy _e => by
    simp only [Rows.fnRCDataUptoRow, List.zip_cons_cons, List.zip_nil_right, List.mem_cons, List.mem_nil_iff, or_false] at hy
    rcases hy with rfl | rfl | rfl | rfl | rfl
    · cases _e
    · cases _e
    · cases _e
    · cases _e
    · exact ⟨pin_laid_unicode_utf8_first, by kernel_rfl⟩) fits1
theorem fnTemplateLiteralUpto_row_tie : Rows.fnTemplateLiteralUptoRow.laidByTextAt .later Tryd.pinned [.data, .data, .data, .data, .data, .pinned] true :=
  OpenClaim.laidByTextAt_pinned rfl rfl tie2 rfl rfl rfl rfl (fun y hy _e => by
    simp only [Rows.fnTemplateLiteralUptoRow, List.zip_cons_cons, List.zip_nil_right, List.mem_cons, List.mem_nil_iff, or_false] at hy
    rcases hy with rfl | rfl | rfl | rfl | rfl | rfl
    · cases _e
    · cases _e
    · cases _e
    · cases _e
    · cases _e
    · exact ⟨pin_laid_unicode_utf8_first, by kernel_rfl⟩) fits2
theorem fnPatternUpto_row_tie : Rows.fnPatternUptoRow.laidByTextAt .later Tryd.pinned [.data, .data, .data, .data, .data, .pinned] true :=
  OpenClaim.laidByTextAt_pinned rfl rfl tie2 rfl rfl rfl rfl (fun y hy _e => by
    simp only [Rows.fnPatternUptoRow, List.zip_cons_cons, List.zip_nil_right, List.mem_cons, List.mem_nil_iff, or_false] at hy
    rcases hy with rfl | rfl | rfl | rfl | rfl | rfl
    · cases _e
    · cases _e
    · cases _e
    · cases _e
    · cases _e
    · exact ⟨pin_laid_unicode_utf8_first, by kernel_rfl⟩) fits2
theorem fnStringUpto_row_tie : Rows.fnStringUptoRow.laidByTextAt .later Tryd.pinned [.data, .data, .data, .data, .data, .pinned] true :=
  OpenClaim.laidByTextAt_pinned rfl rfl tie2 rfl rfl rfl rfl (fun y hy _e => by
    simp only [Rows.fnStringUptoRow, List.zip_cons_cons, List.zip_nil_right, List.mem_cons, List.mem_nil_iff, or_false] at hy
    rcases hy with rfl | rfl | rfl | rfl | rfl | rfl
    · cases _e
    · cases _e
    · cases _e
    · cases _e
    · cases _e
    · exact ⟨pin_laid_unicode_utf8_first, by kernel_rfl⟩) fits2
theorem fnSlashUpto_row_tie : Rows.fnSlashUptoRow.laidByTextAt .later Tryd.pinned [.data, .data, .data, .data, .pinned] true :=
  OpenClaim.laidByTextAt_pinned rfl rfl tie rfl rfl rfl rfl (fun y hy _e => by
    simp only [Rows.fnSlashUptoRow, List.zip_cons_cons, List.zip_nil_right, List.mem_cons, List.mem_nil_iff, or_false] at hy
    rcases hy with rfl | rfl | rfl | rfl | rfl
    · cases _e
    · cases _e
    · cases _e
    · cases _e
    · exact ⟨pin_laid_unicode_utf8_first, by kernel_rfl⟩) fits1
theorem fnScriptTypeUpto_row_tie : Rows.fnScriptTypeUptoRow.laidByTextAt .later Tryd.pinned [.data, .data, .data, .data, .listed, .data, .pinned, .pinned] true :=
  OpenClaim.laidByTextAt_pinned rfl rfl tie3 rfl rfl rfl rfl (fun y hy _e => by
    simp only [Rows.fnScriptTypeUptoRow, List.zip_cons_cons, List.zip_nil_right, List.mem_cons, List.mem_nil_iff, or_false] at hy
    rcases hy with rfl | rfl | rfl | rfl | rfl | rfl | rfl | rfl
    · cases _e
    · cases _e
    · cases _e
    · cases _e
    · cases _e
    · cases _e
    · exact ⟨pin_laid_unicode_CaseRanges, by kernel_rfl⟩
    · exact ⟨pin_laid_unicode_utf8_first, by kernel_rfl⟩) fits3
end Go.Proofs.YteheelcppgjeaaaDoor
