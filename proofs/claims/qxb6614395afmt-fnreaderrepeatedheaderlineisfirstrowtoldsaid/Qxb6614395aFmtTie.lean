/-
  DERIVED. GIVEN WITH THE SEED: THE PROGRAM's TIES (one call each: nine closed facts by the kernel) AND EACH ROW's TIE, after the 31st guide's Derived/Test/Toyas{Tie, Card}.lean. No idea stands in it: it is a product of the set-up. Laid BY PROGRAM, IN A SANDBOX (cutbox-door.mjs). By AI agents, Wed Nov 11 2026. No macro, syntax, notation, axiom, sorry.
-/
import Derived.Test.Qxb6614395aFmtRows
import Derived.LaidByTextLater
import Derived.SevenTiedAt
import Derived.LaidSub
import Derived.LaidOnce
namespace Go.Proofs.Qxb6614395aFmt
open Go
set_option maxRecDepth 100000
theorem seatTie1 : Tryf.prog.laidByTextLater [("unicode/utf8.acceptRanges", Rows.laid_unicode_utf8_acceptRanges), ("io.EOF", Rows.laid_io_EOF), ("io.ErrNoProgress", Rows.laid_io_ErrNoProgress), ("unicode.White_Space", Rows.laid_unicode_White_Space), ("bufio.ErrBufferFull", Rows.laid_bufio_ErrBufferFull), ("bufio.ErrNegativeCount", Rows.laid_bufio_ErrNegativeCount), ("bufio.errNegativeRead", Rows.laid_bufio_errNegativeRead), ("encoding/csv.ErrBareQuote", Rows.laid_encoding_csv_ErrBareQuote), ("encoding/csv.ErrQuote", Rows.laid_encoding_csv_ErrQuote), ("encoding/csv.ErrFieldCount", Rows.laid_encoding_csv_ErrFieldCount), ("encoding/csv.errInvalidDelim", Rows.laid_encoding_csv_errInvalidDelim)] [.data, .sentinel, .sentinel, .listed, .sentinel, .sentinel, .sentinel, .sentinel, .sentinel, .sentinel, .sentinel] true :=
  Program.laidByTextLater_by_one 209 8 33 (by kernel_rfl) (by kernel_rfl) (by kernel_rfl) (by kernel_rfl) (by kernel_rfl) (by kernel_rfl) (fun _ _ => by kernel_rfl)
theorem pin_laid_unicode_utf8_first : Tryf.pinned.checked.prog.pinnedFits "unicode/utf8.first" = true := by kernel_rfl
theorem noOwnUnsafe : Tryf.pinned.checked.prog.headLifts.contains "ownunsafe" = false := by kernel_rfl
theorem fits1 : Tryf.pinned.checked.prog.listedFits [("unicode/utf8.acceptRanges", Rows.laid_unicode_utf8_acceptRanges), ("io.EOF", Rows.laid_io_EOF), ("io.ErrNoProgress", Rows.laid_io_ErrNoProgress), ("unicode.White_Space", Rows.laid_unicode_White_Space), ("bufio.ErrBufferFull", Rows.laid_bufio_ErrBufferFull), ("bufio.ErrNegativeCount", Rows.laid_bufio_ErrNegativeCount), ("bufio.errNegativeRead", Rows.laid_bufio_errNegativeRead), ("encoding/csv.ErrBareQuote", Rows.laid_encoding_csv_ErrBareQuote), ("encoding/csv.ErrQuote", Rows.laid_encoding_csv_ErrQuote), ("encoding/csv.ErrFieldCount", Rows.laid_encoding_csv_ErrFieldCount), ("encoding/csv.errInvalidDelim", Rows.laid_encoding_csv_errInvalidDelim), ("unicode/utf8.first", Rows.laid_unicode_utf8_first)] = true := by
  unfold Program.listedFits
  rw [noOwnUnsafe]
  kernel_rfl
theorem tie : Tryf.prog.laidByTextLater [("unicode/utf8.acceptRanges", Rows.laid_unicode_utf8_acceptRanges), ("io.EOF", Rows.laid_io_EOF), ("io.ErrNoProgress", Rows.laid_io_ErrNoProgress), ("unicode.White_Space", Rows.laid_unicode_White_Space), ("bufio.ErrBufferFull", Rows.laid_bufio_ErrBufferFull), ("bufio.ErrNegativeCount", Rows.laid_bufio_ErrNegativeCount), ("bufio.errNegativeRead", Rows.laid_bufio_errNegativeRead), ("encoding/csv.ErrBareQuote", Rows.laid_encoding_csv_ErrBareQuote), ("encoding/csv.ErrQuote", Rows.laid_encoding_csv_ErrQuote), ("encoding/csv.ErrFieldCount", Rows.laid_encoding_csv_ErrFieldCount), ("encoding/csv.errInvalidDelim", Rows.laid_encoding_csv_errInvalidDelim)] [.data, .sentinel, .sentinel, .listed, .sentinel, .sentinel, .sentinel, .sentinel, .sentinel, .sentinel, .sentinel] true :=
  Program.laidByTextLater.sub seatTie1 ["unicode/utf8.acceptRanges", "io.EOF", "io.ErrNoProgress", "unicode.White_Space", "bufio.ErrBufferFull", "bufio.ErrNegativeCount", "bufio.errNegativeRead", "encoding/csv.ErrBareQuote", "encoding/csv.ErrQuote", "encoding/csv.ErrFieldCount", "encoding/csv.errInvalidDelim"] (by kernel_rfl) (by kernel_rfl)
theorem fnReaderRowsMatchCommaLineModel_row_tie : Rows.fnReaderRowsMatchCommaLineModelRow.laidByTextAt .later Tryf.pinned [.data, .sentinel, .sentinel, .listed, .sentinel, .sentinel, .sentinel, .sentinel, .sentinel, .sentinel, .sentinel, .pinned] true :=
  OpenClaim.laidByTextAt_pinned rfl rfl tie rfl rfl rfl rfl (fun y hy _e => by
    simp only [Rows.fnReaderRowsMatchCommaLineModelRow, List.zip_cons_cons, List.zip_nil_right, List.mem_cons, List.mem_nil_iff, or_false] at hy
    rcases hy with rfl | rfl | rfl | rfl | rfl | rfl | rfl | rfl | rfl | rfl | rfl | rfl
    · cases _e
    · cases _e
    · cases _e
    · cases _e
    · cases _e
    · cases _e
    · cases _e
    · cases _e
    · cases _e
    · cases _e
    · cases _e
    · exact ⟨pin_laid_unicode_utf8_first, by kernel_rfl⟩) fits1
theorem fnReaderRepeatedHeaderLineIsFirstRow_row_tie : Rows.fnReaderRepeatedHeaderLineIsFirstRowRow.laidByTextAt .later Tryf.pinned [.data, .sentinel, .sentinel, .listed, .sentinel, .sentinel, .sentinel, .sentinel, .sentinel, .sentinel, .sentinel, .pinned] true :=
  OpenClaim.laidByTextAt_pinned rfl rfl tie rfl rfl rfl rfl (fun y hy _e => by
    simp only [Rows.fnReaderRepeatedHeaderLineIsFirstRowRow, List.zip_cons_cons, List.zip_nil_right, List.mem_cons, List.mem_nil_iff, or_false] at hy
    rcases hy with rfl | rfl | rfl | rfl | rfl | rfl | rfl | rfl | rfl | rfl | rfl | rfl
    · cases _e
    · cases _e
    · cases _e
    · cases _e
    · cases _e
    · cases _e
    · cases _e
    · cases _e
    · cases _e
    · cases _e
    · cases _e
    · exact ⟨pin_laid_unicode_utf8_first, by kernel_rfl⟩) fits1
end Go.Proofs.Qxb6614395aFmt
