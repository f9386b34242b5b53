/-
  DERIVED. GIVEN WITH THE SEED: THE PROGRAM's TIES (one call each: nine closed facts by the kernel) AND EACH ROW's TIE, after the 31st guide's Derived/Test/Toyas{Tie, Card}.lean. No idea stands in it: it is a product of the set-up. Laid BY PROGRAM, IN A SANDBOX (cutbox-door.mjs). By AI agents, Wed Nov 11 2026. No macro, syntax, notation, axiom, sorry.
-/
import Derived.Test.YtnnhehlieakedaaGreatDoorRows
import Derived.LaidByTextLater
import Derived.SevenTiedAt
import Derived.LaidSub
import Derived.LaidOnce
namespace Go.Proofs.YtnnhehlieakedaaGreatDoor
open Go
set_option maxRecDepth 100000
theorem seatTie1 : Tryz.prog.laidByTextLater [("unicode/utf8.acceptRanges", Rows.laid_unicode_utf8_acceptRanges), ("strconv.ErrSyntax", Rows.laid_strconv_ErrSyntax), ("unicode.White_Space", Rows.laid_unicode_White_Space), ("bytes.ErrTooLarge", Rows.laid_bytes_ErrTooLarge), ("pub-clamour/pub/alertmanager/matcher/parse.errEOF", Rows.laid_pub_clamour_pub_alertmanager_matcher_parse_errEOF), ("pub-clamour/pub/alertmanager/matcher/parse.errExpectedEOF", Rows.laid_pub_clamour_pub_alertmanager_matcher_parse_errExpectedEOF), ("pub-clamour/pub/alertmanager/matcher/parse.errNoOpenBrace", Rows.laid_pub_clamour_pub_alertmanager_matcher_parse_errNoOpenBrace), ("pub-clamour/pub/alertmanager/matcher/parse.errNoCloseBrace", Rows.laid_pub_clamour_pub_alertmanager_matcher_parse_errNoCloseBrace), ("pub-clamour/pub/alertmanager/matcher/parse.errNoLabelName", Rows.laid_pub_clamour_pub_alertmanager_matcher_parse_errNoLabelName), ("pub-clamour/pub/alertmanager/matcher/parse.errNoLabelValue", Rows.laid_pub_clamour_pub_alertmanager_matcher_parse_errNoLabelValue), ("pub-clamour/pub/alertmanager/matcher/parse.errNoOperator", Rows.laid_pub_clamour_pub_alertmanager_matcher_parse_errNoOperator), ("pub-clamour/pub/alertmanager/matcher/parse.errExpectedComma", Rows.laid_pub_clamour_pub_alertmanager_matcher_parse_errExpectedComma), ("pub-clamour/pub/alertmanager/matcher/parse.errExpectedCommaOrCloseBrace", Rows.laid_pub_clamour_pub_alertmanager_matcher_parse_errExpectedCommaOrCloseBrace), ("pub-clamour/pub/alertmanager/matcher/parse.errExpectedMatcherOrCloseBrace", Rows.laid_pub_clamour_pub_alertmanager_matcher_parse_errExpectedMatcherOrCloseBrace)] [.data, .sentinel, .listed, .sentinel, .sentinel, .sentinel, .sentinel, .sentinel, .sentinel, .sentinel, .sentinel, .sentinel, .sentinel, .sentinel] true :=
  Program.laidByTextLater_by_one 266 8 33 (by kernel_rfl) (by kernel_rfl) (by kernel_rfl) (by kernel_rfl) (by kernel_rfl) (by kernel_rfl) (fun _ _ => by kernel_rfl)
theorem pin_laid_unicode_utf8_first : Tryz.pinned.checked.prog.pinnedFits "unicode/utf8.first" = true := by kernel_rfl
theorem pin_laid_strconv_isGraphic : Tryz.pinned.checked.prog.pinnedFits "strconv.isGraphic" = true := by kernel_rfl
theorem pin_laid_strconv_isNotPrint16 : Tryz.pinned.checked.prog.pinnedFits "strconv.isNotPrint16" = true := by kernel_rfl
theorem pin_laid_strconv_isNotPrint32 : Tryz.pinned.checked.prog.pinnedFits "strconv.isNotPrint32" = true := by kernel_rfl
theorem pin_laid_strconv_isPrint16 : Tryz.pinned.checked.prog.pinnedFits "strconv.isPrint16" = true := by kernel_rfl
theorem pin_laid_strconv_isPrint32 : Tryz.pinned.checked.prog.pinnedFits "strconv.isPrint32" = true := by kernel_rfl
theorem noOwnUnsafe : Tryz.pinned.checked.prog.headLifts.contains "ownunsafe" = false := by kernel_rfl
theorem fits1 : Tryz.pinned.checked.prog.listedFits [("unicode/utf8.acceptRanges", Rows.laid_unicode_utf8_acceptRanges), ("strconv.ErrSyntax", Rows.laid_strconv_ErrSyntax), ("unicode.White_Space", Rows.laid_unicode_White_Space), ("pub-clamour/pub/alertmanager/matcher/parse.errEOF", Rows.laid_pub_clamour_pub_alertmanager_matcher_parse_errEOF), ("pub-clamour/pub/alertmanager/matcher/parse.errExpectedEOF", Rows.laid_pub_clamour_pub_alertmanager_matcher_parse_errExpectedEOF), ("pub-clamour/pub/alertmanager/matcher/parse.errNoOpenBrace", Rows.laid_pub_clamour_pub_alertmanager_matcher_parse_errNoOpenBrace), ("pub-clamour/pub/alertmanager/matcher/parse.errNoCloseBrace", Rows.laid_pub_clamour_pub_alertmanager_matcher_parse_errNoCloseBrace), ("pub-clamour/pub/alertmanager/matcher/parse.errNoLabelName", Rows.laid_pub_clamour_pub_alertmanager_matcher_parse_errNoLabelName), ("pub-clamour/pub/alertmanager/matcher/parse.errNoLabelValue", Rows.laid_pub_clamour_pub_alertmanager_matcher_parse_errNoLabelValue), ("pub-clamour/pub/alertmanager/matcher/parse.errNoOperator", Rows.laid_pub_clamour_pub_alertmanager_matcher_parse_errNoOperator), ("pub-clamour/pub/alertmanager/matcher/parse.errExpectedComma", Rows.laid_pub_clamour_pub_alertmanager_matcher_parse_errExpectedComma), ("pub-clamour/pub/alertmanager/matcher/parse.errExpectedCommaOrCloseBrace", Rows.laid_pub_clamour_pub_alertmanager_matcher_parse_errExpectedCommaOrCloseBrace), ("pub-clamour/pub/alertmanager/matcher/parse.errExpectedMatcherOrCloseBrace", Rows.laid_pub_clamour_pub_alertmanager_matcher_parse_errExpectedMatcherOrCloseBrace), ("unicode/utf8.first", Rows.laid_unicode_utf8_first)] = true := by
  unfold Program.listedFits
  rw [noOwnUnsafe]
  kernel_rfl
theorem tie : Tryz.prog.laidByTextLater [("unicode/utf8.acceptRanges", Rows.laid_unicode_utf8_acceptRanges), ("strconv.ErrSyntax", Rows.laid_strconv_ErrSyntax), ("unicode.White_Space", Rows.laid_unicode_White_Space), ("pub-clamour/pub/alertmanager/matcher/parse.errEOF", Rows.laid_pub_clamour_pub_alertmanager_matcher_parse_errEOF), ("pub-clamour/pub/alertmanager/matcher/parse.errExpectedEOF", Rows.laid_pub_clamour_pub_alertmanager_matcher_parse_errExpectedEOF), ("pub-clamour/pub/alertmanager/matcher/parse.errNoOpenBrace", Rows.laid_pub_clamour_pub_alertmanager_matcher_parse_errNoOpenBrace), ("pub-clamour/pub/alertmanager/matcher/parse.errNoCloseBrace", Rows.laid_pub_clamour_pub_alertmanager_matcher_parse_errNoCloseBrace), ("pub-clamour/pub/alertmanager/matcher/parse.errNoLabelName", Rows.laid_pub_clamour_pub_alertmanager_matcher_parse_errNoLabelName), ("pub-clamour/pub/alertmanager/matcher/parse.errNoLabelValue", Rows.laid_pub_clamour_pub_alertmanager_matcher_parse_errNoLabelValue), ("pub-clamour/pub/alertmanager/matcher/parse.errNoOperator", Rows.laid_pub_clamour_pub_alertmanager_matcher_parse_errNoOperator), ("pub-clamour/pub/alertmanager/matcher/parse.errExpectedComma", Rows.laid_pub_clamour_pub_alertmanager_matcher_parse_errExpectedComma), ("pub-clamour/pub/alertmanager/matcher/parse.errExpectedCommaOrCloseBrace", Rows.laid_pub_clamour_pub_alertmanager_matcher_parse_errExpectedCommaOrCloseBrace), ("pub-clamour/pub/alertmanager/matcher/parse.errExpectedMatcherOrCloseBrace", Rows.laid_pub_clamour_pub_alertmanager_matcher_parse_errExpectedMatcherOrCloseBrace)] [.data, .sentinel, .listed, .sentinel, .sentinel, .sentinel, .sentinel, .sentinel, .sentinel, .sentinel, .sentinel, .sentinel, .sentinel] true :=
  Program.laidByTextLater.sub seatTie1 ["unicode/utf8.acceptRanges", "strconv.ErrSyntax", "unicode.White_Space", "pub-clamour/pub/alertmanager/matcher/parse.errEOF", "pub-clamour/pub/alertmanager/matcher/parse.errExpectedEOF", "pub-clamour/pub/alertmanager/matcher/parse.errNoOpenBrace", "pub-clamour/pub/alertmanager/matcher/parse.errNoCloseBrace", "pub-clamour/pub/alertmanager/matcher/parse.errNoLabelName", "pub-clamour/pub/alertmanager/matcher/parse.errNoLabelValue", "pub-clamour/pub/alertmanager/matcher/parse.errNoOperator", "pub-clamour/pub/alertmanager/matcher/parse.errExpectedComma", "pub-clamour/pub/alertmanager/matcher/parse.errExpectedCommaOrCloseBrace", "pub-clamour/pub/alertmanager/matcher/parse.errExpectedMatcherOrCloseBrace"] (by kernel_rfl) (by kernel_rfl)
theorem fnParseSingle_row_tie : Rows.fnParseSingleRow.laidByTextAt .later Tryz.pinned [.data, .sentinel, .listed, .sentinel, .sentinel, .sentinel, .sentinel, .sentinel, .sentinel, .sentinel, .sentinel, .sentinel, .sentinel, .pinned] true :=
  OpenClaim.laidByTextAt_pinned rfl rfl tie rfl rfl rfl rfl (fun y hy _e => by
    simp only [Rows.fnParseSingleRow, List.zip_cons_cons, List.zip_nil_right, List.mem_cons, List.mem_nil_iff, or_false] at hy
    rcases hy with rfl | rfl | rfl | rfl | rfl | rfl | rfl | rfl | rfl | rfl | rfl | rfl | rfl | rfl
    · cases _e
    · cases _e
    · cases _e
    · cases _e
    · cases _e
    · cases _e
    · cases _e
    · cases _e
    · cases _e
    · cases _e
    · cases _e
    · cases _e
    · cases _e
    · exact ⟨pin_laid_unicode_utf8_first, by kernel_rfl⟩) fits1
theorem fits2 : Tryz.pinned.checked.prog.listedFits [("unicode/utf8.acceptRanges", Rows.laid_unicode_utf8_acceptRanges), ("strconv.ErrSyntax", Rows.laid_strconv_ErrSyntax), ("unicode.White_Space", Rows.laid_unicode_White_Space), ("bytes.ErrTooLarge", Rows.laid_bytes_ErrTooLarge), ("pub-clamour/pub/alertmanager/matcher/parse.errEOF", Rows.laid_pub_clamour_pub_alertmanager_matcher_parse_errEOF), ("pub-clamour/pub/alertmanager/matcher/parse.errExpectedEOF", Rows.laid_pub_clamour_pub_alertmanager_matcher_parse_errExpectedEOF), ("pub-clamour/pub/alertmanager/matcher/parse.errNoOpenBrace", Rows.laid_pub_clamour_pub_alertmanager_matcher_parse_errNoOpenBrace), ("pub-clamour/pub/alertmanager/matcher/parse.errNoCloseBrace", Rows.laid_pub_clamour_pub_alertmanager_matcher_parse_errNoCloseBrace), ("pub-clamour/pub/alertmanager/matcher/parse.errNoLabelName", Rows.laid_pub_clamour_pub_alertmanager_matcher_parse_errNoLabelName), ("pub-clamour/pub/alertmanager/matcher/parse.errNoLabelValue", Rows.laid_pub_clamour_pub_alertmanager_matcher_parse_errNoLabelValue), ("pub-clamour/pub/alertmanager/matcher/parse.errNoOperator", Rows.laid_pub_clamour_pub_alertmanager_matcher_parse_errNoOperator), ("pub-clamour/pub/alertmanager/matcher/parse.errExpectedComma", Rows.laid_pub_clamour_pub_alertmanager_matcher_parse_errExpectedComma), ("pub-clamour/pub/alertmanager/matcher/parse.errExpectedCommaOrCloseBrace", Rows.laid_pub_clamour_pub_alertmanager_matcher_parse_errExpectedCommaOrCloseBrace), ("pub-clamour/pub/alertmanager/matcher/parse.errExpectedMatcherOrCloseBrace", Rows.laid_pub_clamour_pub_alertmanager_matcher_parse_errExpectedMatcherOrCloseBrace), ("strconv.isGraphic", Rows.laid_strconv_isGraphic), ("strconv.isNotPrint16", Rows.laid_strconv_isNotPrint16), ("strconv.isNotPrint32", Rows.laid_strconv_isNotPrint32), ("strconv.isPrint16", Rows.laid_strconv_isPrint16), ("strconv.isPrint32", Rows.laid_strconv_isPrint32), ("unicode/utf8.first", Rows.laid_unicode_utf8_first)] = true := by
  unfold Program.listedFits
  rw [noOwnUnsafe]
  kernel_rfl
theorem tie2 : Tryz.prog.laidByTextLater [("unicode/utf8.acceptRanges", Rows.laid_unicode_utf8_acceptRanges), ("strconv.ErrSyntax", Rows.laid_strconv_ErrSyntax), ("unicode.White_Space", Rows.laid_unicode_White_Space), ("bytes.ErrTooLarge", Rows.laid_bytes_ErrTooLarge), ("pub-clamour/pub/alertmanager/matcher/parse.errEOF", Rows.laid_pub_clamour_pub_alertmanager_matcher_parse_errEOF), ("pub-clamour/pub/alertmanager/matcher/parse.errExpectedEOF", Rows.laid_pub_clamour_pub_alertmanager_matcher_parse_errExpectedEOF), ("pub-clamour/pub/alertmanager/matcher/parse.errNoOpenBrace", Rows.laid_pub_clamour_pub_alertmanager_matcher_parse_errNoOpenBrace), ("pub-clamour/pub/alertmanager/matcher/parse.errNoCloseBrace", Rows.laid_pub_clamour_pub_alertmanager_matcher_parse_errNoCloseBrace), ("pub-clamour/pub/alertmanager/matcher/parse.errNoLabelName", Rows.laid_pub_clamour_pub_alertmanager_matcher_parse_errNoLabelName), ("pub-clamour/pub/alertmanager/matcher/parse.errNoLabelValue", Rows.laid_pub_clamour_pub_alertmanager_matcher_parse_errNoLabelValue), ("pub-clamour/pub/alertmanager/matcher/parse.errNoOperator", Rows.laid_pub_clamour_pub_alertmanager_matcher_parse_errNoOperator), ("pub-clamour/pub/alertmanager/matcher/parse.errExpectedComma", Rows.laid_pub_clamour_pub_alertmanager_matcher_parse_errExpectedComma), ("pub-clamour/pub/alertmanager/matcher/parse.errExpectedCommaOrCloseBrace", Rows.laid_pub_clamour_pub_alertmanager_matcher_parse_errExpectedCommaOrCloseBrace), ("pub-clamour/pub/alertmanager/matcher/parse.errExpectedMatcherOrCloseBrace", Rows.laid_pub_clamour_pub_alertmanager_matcher_parse_errExpectedMatcherOrCloseBrace)] [.data, .sentinel, .listed, .sentinel, .sentinel, .sentinel, .sentinel, .sentinel, .sentinel, .sentinel, .sentinel, .sentinel, .sentinel, .sentinel] true :=
  Program.laidByTextLater.sub seatTie1 ["unicode/utf8.acceptRanges", "strconv.ErrSyntax", "unicode.White_Space", "bytes.ErrTooLarge", "pub-clamour/pub/alertmanager/matcher/parse.errEOF", "pub-clamour/pub/alertmanager/matcher/parse.errExpectedEOF", "pub-clamour/pub/alertmanager/matcher/parse.errNoOpenBrace", "pub-clamour/pub/alertmanager/matcher/parse.errNoCloseBrace", "pub-clamour/pub/alertmanager/matcher/parse.errNoLabelName", "pub-clamour/pub/alertmanager/matcher/parse.errNoLabelValue", "pub-clamour/pub/alertmanager/matcher/parse.errNoOperator", "pub-clamour/pub/alertmanager/matcher/parse.errExpectedComma", "pub-clamour/pub/alertmanager/matcher/parse.errExpectedCommaOrCloseBrace", "pub-clamour/pub/alertmanager/matcher/parse.errExpectedMatcherOrCloseBrace"] (by kernel_rfl) (by kernel_rfl)
theorem fnReadPrinted_row_tie : Rows.fnReadPrintedRow.laidByTextAt .later Tryz.pinned [.data, .sentinel, .listed, .sentinel, .sentinel, .sentinel, .sentinel, .sentinel, .sentinel, .sentinel, .sentinel, .sentinel, .sentinel, .sentinel, .pinned, .pinned, .pinned, .pinned, .pinned, .pinned] true :=
  OpenClaim.laidByTextAt_pinned rfl rfl tie2 rfl rfl rfl rfl (fun y hy _e => by
    simp only [Rows.fnReadPrintedRow, List.zip_cons_cons, List.zip_nil_right, List.mem_cons, List.mem_nil_iff, or_false] at hy
    rcases hy with rfl | rfl | rfl | rfl | rfl | rfl | rfl | rfl | rfl | rfl | rfl | rfl | rfl | rfl | rfl | rfl | rfl | rfl | rfl | rfl
    · cases _e
    · cases _e
    · cases _e
    · cases _e
    · cases _e
    · cases _e
    · cases _e
    · cases _e
    · cases _e
    · cases _e
    · cases _e
    · cases _e
    · cases _e
    · cases _e
    · exact ⟨pin_laid_strconv_isGraphic, by kernel_rfl⟩
    · exact ⟨pin_laid_strconv_isNotPrint16, by kernel_rfl⟩
    · exact ⟨pin_laid_strconv_isNotPrint32, by kernel_rfl⟩
    · exact ⟨pin_laid_strconv_isPrint16, by kernel_rfl⟩
    · exact ⟨pin_laid_strconv_isPrint32, by kernel_rfl⟩
    · exact ⟨pin_laid_unicode_utf8_first, by kernel_rfl⟩) fits2
theorem fnPrintedBack_row_tie : Rows.fnPrintedBackRow.laidByTextAt .later Tryz.pinned [.data, .sentinel, .listed, .sentinel, .sentinel, .sentinel, .sentinel, .sentinel, .sentinel, .sentinel, .sentinel, .sentinel, .sentinel, .sentinel, .pinned, .pinned, .pinned, .pinned, .pinned, .pinned] true :=
  OpenClaim.laidByTextAt_pinned rfl rfl tie2 rfl rfl rfl rfl (fun y hy _e => by
    simp only [Rows.fnPrintedBackRow, List.zip_cons_cons, List.zip_nil_right, List.mem_cons, List.mem_nil_iff, or_false] at hy
    rcases hy with rfl | rfl | rfl | rfl | rfl | rfl | rfl | rfl | rfl | rfl | rfl | rfl | rfl | rfl | rfl | rfl | rfl | rfl | rfl | rfl
    · cases _e
    · cases _e
    · cases _e
    · cases _e
    · cases _e
    · cases _e
    · cases _e
    · cases _e
    · cases _e
    · cases _e
    · cases _e
    · cases _e
    · cases _e
    · cases _e
    · exact ⟨pin_laid_strconv_isGraphic, by kernel_rfl⟩
    · exact ⟨pin_laid_strconv_isNotPrint16, by kernel_rfl⟩
    · exact ⟨pin_laid_strconv_isNotPrint32, by kernel_rfl⟩
    · exact ⟨pin_laid_strconv_isPrint16, by kernel_rfl⟩
    · exact ⟨pin_laid_strconv_isPrint32, by kernel_rfl⟩
    · exact ⟨pin_laid_unicode_utf8_first, by kernel_rfl⟩) fits2
theorem fnTextRead_row_tie : Rows.fnTextReadRow.laidByTextAt .later Tryz.pinned [.data, .sentinel, .listed, .sentinel, .sentinel, .sentinel, .sentinel, .sentinel, .sentinel, .sentinel, .sentinel, .sentinel, .sentinel, .sentinel, .pinned, .pinned, .pinned, .pinned, .pinned, .pinned] true :=
  OpenClaim.laidByTextAt_pinned rfl rfl tie2 rfl rfl rfl rfl (fun y hy _e => by
    simp only [Rows.fnTextReadRow, List.zip_cons_cons, List.zip_nil_right, List.mem_cons, List.mem_nil_iff, or_false] at hy
    rcases hy with rfl | rfl | rfl | rfl | rfl | rfl | rfl | rfl | rfl | rfl | rfl | rfl | rfl | rfl | rfl | rfl | rfl | rfl | rfl | rfl
    · cases _e
    · cases _e
    · cases _e
    · cases _e
    · cases _e
    · cases _e
    · cases _e
    · cases _e
    · cases _e
    · cases _e
    · cases _e
    · cases _e
    · cases _e
    · cases _e
    · exact ⟨pin_laid_strconv_isGraphic, by kernel_rfl⟩
    · exact ⟨pin_laid_strconv_isNotPrint16, by kernel_rfl⟩
    · exact ⟨pin_laid_strconv_isNotPrint32, by kernel_rfl⟩
    · exact ⟨pin_laid_strconv_isPrint16, by kernel_rfl⟩
    · exact ⟨pin_laid_strconv_isPrint32, by kernel_rfl⟩
    · exact ⟨pin_laid_unicode_utf8_first, by kernel_rfl⟩) fits2
theorem fnParseSingleUpto_row_tie : Rows.fnParseSingleUptoRow.laidByTextAt .later Tryz.pinned [.data, .sentinel, .listed, .sentinel, .sentinel, .sentinel, .sentinel, .sentinel, .sentinel, .sentinel, .sentinel, .sentinel, .sentinel, .pinned] true :=
  OpenClaim.laidByTextAt_pinned rfl rfl tie rfl rfl rfl rfl (fun y hy _e => by
    simp only [Rows.fnParseSingleUptoRow, List.zip_cons_cons, List.zip_nil_right, List.mem_cons, List.mem_nil_iff, or_false] at hy
    rcases hy with rfl | rfl | rfl | rfl | rfl | rfl | rfl | rfl | rfl | rfl | rfl | rfl | rfl | rfl
    · cases _e
    · cases _e
    · cases _e
    · cases _e
    · cases _e
    · cases _e
    · cases _e
    · cases _e
    · cases _e
    · cases _e
    · cases _e
    · cases _e
    · cases _e
    · exact ⟨pin_laid_unicode_utf8_first, by kernel_rfl⟩) fits1
theorem fnReadPrintedUpto_row_tie : Rows.fnReadPrintedUptoRow.laidByTextAt .later Tryz.pinned [.data, .sentinel, .listed, .sentinel, .sentinel, .sentinel, .sentinel, .sentinel, .sentinel, .sentinel, .sentinel, .sentinel, .sentinel, .sentinel, .pinned, .pinned, .pinned, .pinned, .pinned, .pinned] true :=
  OpenClaim.laidByTextAt_pinned rfl rfl tie2 rfl rfl rfl rfl (fun y hy _e => by
    simp only [Rows.fnReadPrintedUptoRow, List.zip_cons_cons, List.zip_nil_right, List.mem_cons, List.mem_nil_iff, or_false] at hy
    rcases hy with rfl | rfl | rfl | rfl | rfl | rfl | rfl | rfl | rfl | rfl | rfl | rfl | rfl | rfl | rfl | rfl | rfl | rfl | rfl | rfl
    · cases _e
    · cases _e
    · cases _e
    · cases _e
    · cases _e
    · cases _e
    · cases _e
    · cases _e
    · cases _e
    · cases _e
    · cases _e
    · cases _e
    · cases _e
    · cases _e
    · exact ⟨pin_laid_strconv_isGraphic, by kernel_rfl⟩
    · exact ⟨pin_laid_strconv_isNotPrint16, by kernel_rfl⟩
    · exact ⟨pin_laid_strconv_isNotPrint32, by kernel_rfl⟩
    · exact ⟨pin_laid_strconv_isPrint16, by kernel_rfl⟩
    · exact ⟨pin_laid_strconv_isPrint32, by kernel_rfl⟩
    · exact ⟨pin_laid_unicode_utf8_first, by kernel_rfl⟩) fits2
theorem fnPrintedBackUpto_row_tie : Rows.fnPrintedBackUptoRow.laidByTextAt .later Tryz.pinned [.data, .sentinel, .listed, .sentinel, .sentinel, .sentinel, .sentinel, .sentinel, .sentinel, .sentinel, .sentinel, .sentinel, .sentinel, .sentinel, .pinned, .pinned, .pinned, .pinned, .pinned, .pinned] true :=
  OpenClaim.laidByTextAt_pinned rfl rfl tie2 rfl rfl rfl rfl (fun y hy _e => by
    simp only [Rows.fnPrintedBackUptoRow, List.zip_cons_cons, List.zip_nil_right, List.mem_cons, List.mem_nil_iff, or_false] at hy
    rcases hy with rfl | rfl | rfl | rfl | rfl | rfl | rfl | rfl | rfl | rfl | rfl | rfl | rfl | rfl | rfl | rfl | rfl | rfl | rfl | rfl
    · cases _e
    · cases _e
    · cases _e
    · cases _e
    · cases _e
    · cases _e
    · cases _e
    · cases _e
    · cases _e
    · cases _e
    · cases _e
    · cases _e
    · cases _e
    · cases _e
    · exact ⟨pin_laid_strconv_isGraphic, by kernel_rfl⟩
    · exact ⟨pin_laid_strconv_isNotPrint16, by kernel_rfl⟩
    · exact ⟨pin_laid_strconv_isNotPrint32, by kernel_rfl⟩
    · exact ⟨pin_laid_strconv_isPrint16, by kernel_rfl⟩
    · exact ⟨pin_laid_strconv_isPrint32, by kernel_rfl⟩
    · exact ⟨pin_laid_unicode_utf8_first, by kernel_rfl⟩) fits2
theorem fnTextReadUpto_row_tie : Rows.fnTextReadUptoRow.laidByTextAt .later Tryz.pinned [.data, .sentinel, .listed, .sentinel, .sentinel, .sentinel, .sentinel, .sentinel, .sentinel, .sentinel, .sentinel, .sentinel, .sentinel, .sentinel, .pinned, .pinned, .pinned, .pinned, .pinned, .pinned] true :=
  OpenClaim.laidByTextAt_pinned rfl rfl tie2 rfl rfl rfl rfl (fun y hy _e => by
    simp only [Rows.fnTextReadUptoRow, List.zip_cons_cons, List.zip_nil_right, List.mem_cons, List.mem_nil_iff, or_false] at hy
    rcases hy with rfl | rfl | rfl | rfl | rfl | rfl | rfl | rfl | rfl | rfl | rfl | rfl | rfl | rfl | rfl | rfl | rfl | rfl | rfl | rfl
    · cases _e
    · cases _e
    · cases _e
    · cases _e
    · cases _e
    · cases _e
    · cases _e
    · cases _e
    · cases _e
    · cases _e
    · cases _e
    · cases _e
    · cases _e
    · cases _e
    · exact ⟨pin_laid_strconv_isGraphic, by kernel_rfl⟩
    · exact ⟨pin_laid_strconv_isNotPrint16, by kernel_rfl⟩
    · exact ⟨pin_laid_strconv_isNotPrint32, by kernel_rfl⟩
    · exact ⟨pin_laid_strconv_isPrint16, by kernel_rfl⟩
    · exact ⟨pin_laid_strconv_isPrint32, by kernel_rfl⟩
    · exact ⟨pin_laid_unicode_utf8_first, by kernel_rfl⟩) fits2
end Go.Proofs.YtnnhehlieakedaaGreatDoor
