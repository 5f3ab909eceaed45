/-
  NARROWER THAN 'FOR EVERY INPUT', by the rows' own cells (each row's printed sentence says how): FnReaderRowsMatchCommaLineModel: laid · FnReaderRepeatedHeaderLineIsFirstRow: laid.
  DERIVED. THE GIVEN ROWS OF THIS SEAT. 4 by the template 'for every input the law returns true; each argument reads behind the call as it read before'; 0 by the template 'total and deterministic' (their statements: Qxb6614395aFmtTotals.lean).
  GIVEN WITH THE SEED: the statements are not yours to turn. If you find one false, say at which input.
  Laid BY PROGRAM, IN A SANDBOX (cutbox-rows.mjs): the forced cells as the released guide's own fill.sh prints them over the translation 3f4fa274553c0830… (all of the seat's roots in one cut). By AI agents, Wed Nov 11 2026. No macro, syntax, notation, axiom, sorry.
-/
import Derived.Test.Qxb6614395aFmtChecked
import GoSem.PinnedTables
import GoSem.Claim
import GoSem.ClaimJoined
import GoSem.ClaimMapViews
import Derived.JoinedTies
import Derived.KernelRfl
namespace Go.Proofs.Qxb6614395aFmt
/- THE CELL 'sum', in the pinned program and in every row, IS THE sha256 OF THE DUMP (.gsa) THAT Qxb6614395aFmtProg.lean LOADS. Nothing in Lean hashes anything: it is a label: what it is worth is what the hold of that sum in a sandbox is worth. -/
noncomputable def Tryf.pinned : Pinned := { name := "qxb6614395afmt", sum := "3f4fa274553c0830a54067dd8d1bc177874937a1518685d9355143a4a73f4f2d", checked := Tryf.checked }
namespace Rows
def none {H : Type} : Left H := { results := [], args := [] }

/- WHAT THE LISTED PACKAGE-LEVEL VARIABLES READ AS WHEN THE CALL BEGINS. Each datum BY PROGRAM (the guide's laid-datum.mjs) off the statement by which the dump's own 'gosem.cut.vars' lays the variable. In a bare row this is a premise. The card (Qxb6614395aFmtCards.lean) ties it to the program's text. -/
def laid_unicode_utf8_acceptRanges {H : Type} : DataW H := .agg [.agg [.lit (.int .u8 128), .lit (.int .u8 191)], .agg [.lit (.int .u8 160), .lit (.int .u8 191)], .agg [.lit (.int .u8 128), .lit (.int .u8 159)], .agg [.lit (.int .u8 144), .lit (.int .u8 191)], .agg [.lit (.int .u8 128), .lit (.int .u8 143)], .agg [.lit (.int .u8 0), .lit (.int .u8 0)], .agg [.lit (.int .u8 0), .lit (.int .u8 0)], .agg [.lit (.int .u8 0), .lit (.int .u8 0)], .agg [.lit (.int .u8 0), .lit (.int .u8 0)], .agg [.lit (.int .u8 0), .lit (.int .u8 0)], .agg [.lit (.int .u8 0), .lit (.int .u8 0)], .agg [.lit (.int .u8 0), .lit (.int .u8 0)], .agg [.lit (.int .u8 0), .lit (.int .u8 0)], .agg [.lit (.int .u8 0), .lit (.int .u8 0)], .agg [.lit (.int .u8 0), .lit (.int .u8 0)], .agg [.lit (.int .u8 0), .lit (.int .u8 0)]]
def laid_io_EOF {H : Type} : DataW H := .iface "*errors.errorString" (.ptr (.agg [.lit (.string [69, 79, 70])]))
def laid_io_ErrNoProgress {H : Type} : DataW H := .iface "*errors.errorString" (.ptr (.agg [.lit (.string [109, 117, 108, 116, 105, 112, 108, 101, 32, 82, 101, 97, 100, 32, 99, 97, 108, 108, 115, 32, 114, 101, 116, 117, 114, 110, 32, 110, 111, 32, 100, 97, 116, 97, 32, 111, 114, 32, 101, 114, 114, 111, 114])]))
def laid_unicode_White_Space {H : Type} : DataW H := .ptr (.agg [.slice [.agg [.lit (.int .u16 9), .lit (.int .u16 13), .lit (.int .u16 1)], .agg [.lit (.int .u16 32), .lit (.int .u16 133), .lit (.int .u16 101)], .agg [.lit (.int .u16 160), .lit (.int .u16 5760), .lit (.int .u16 5600)], .agg [.lit (.int .u16 8192), .lit (.int .u16 8202), .lit (.int .u16 1)], .agg [.lit (.int .u16 8232), .lit (.int .u16 8233), .lit (.int .u16 1)], .agg [.lit (.int .u16 8239), .lit (.int .u16 8287), .lit (.int .u16 48)], .agg [.lit (.int .u16 12288), .lit (.int .u16 12288), .lit (.int .u16 1)]] [], .nil, .lit (.int .i64 2)])
def laid_bufio_ErrBufferFull {H : Type} : DataW H := .iface "*errors.errorString" (.ptr (.agg [.lit (.string [98, 117, 102, 105, 111, 58, 32, 98, 117, 102, 102, 101, 114, 32, 102, 117, 108, 108])]))
def laid_bufio_ErrNegativeCount {H : Type} : DataW H := .iface "*errors.errorString" (.ptr (.agg [.lit (.string [98, 117, 102, 105, 111, 58, 32, 110, 101, 103, 97, 116, 105, 118, 101, 32, 99, 111, 117, 110, 116])]))
def laid_bufio_errNegativeRead {H : Type} : DataW H := .iface "*errors.errorString" (.ptr (.agg [.lit (.string [98, 117, 102, 105, 111, 58, 32, 114, 101, 97, 100, 101, 114, 32, 114, 101, 116, 117, 114, 110, 101, 100, 32, 110, 101, 103, 97, 116, 105, 118, 101, 32, 99, 111, 117, 110, 116, 32, 102, 114, 111, 109, 32, 82, 101, 97, 100])]))
def laid_encoding_csv_ErrBareQuote {H : Type} : DataW H := .iface "*errors.errorString" (.ptr (.agg [.lit (.string [98, 97, 114, 101, 32, 34, 32, 105, 110, 32, 110, 111, 110, 45, 113, 117, 111, 116, 101, 100, 45, 102, 105, 101, 108, 100])]))
def laid_encoding_csv_ErrQuote {H : Type} : DataW H := .iface "*errors.errorString" (.ptr (.agg [.lit (.string [101, 120, 116, 114, 97, 110, 101, 111, 117, 115, 32, 111, 114, 32, 109, 105, 115, 115, 105, 110, 103, 32, 34, 32, 105, 110, 32, 113, 117, 111, 116, 101, 100, 45, 102, 105, 101, 108, 100])]))
def laid_encoding_csv_ErrFieldCount {H : Type} : DataW H := .iface "*errors.errorString" (.ptr (.agg [.lit (.string [119, 114, 111, 110, 103, 32, 110, 117, 109, 98, 101, 114, 32, 111, 102, 32, 102, 105, 101, 108, 100, 115])]))
def laid_encoding_csv_errInvalidDelim {H : Type} : DataW H := .iface "*errors.errorString" (.ptr (.agg [.lit (.string [99, 115, 118, 58, 32, 105, 110, 118, 97, 108, 105, 100, 32, 102, 105, 101, 108, 100, 32, 111, 114, 32, 99, 111, 109, 109, 101, 110, 116, 32, 100, 101, 108, 105, 109, 105, 116, 101, 114])]))
/-- One of Go's own tables, pinned by name: the form's constant. -/
def laid_unicode_utf8_first : DataW Unit := Go.Pinned.utf8First

/-- 'zzlaws_internal_csvtable_b1.FnReaderRowsMatchCommaLineModel': WHATEVER THE INPUT: true; the input reads as it did. -/
def fnReaderRowsMatchCommaLineModelSpec : ChangeSpec := { name := "fnReaderRowsMatchCommaLineModel", fn := fun _ => fun
  | [d1, d2, d3] => { results := [.lit (.bool true)], args := [d1, d2, d3] }
  | _ => none }
def fnReaderRowsMatchCommaLineModelRow : OpenClaim := { program := "qxb6614395afmt", sum := "3f4fa274553c0830a54067dd8d1bc177874937a1518685d9355143a4a73f4f2d", func := "example.com/tierfold/tierfold/zzlaws_internal_csvtable_b1.FnReaderRowsMatchCommaLineModel", spec := "fnReaderRowsMatchCommaLineModel", stops := ["fmt.errorf"], inPlace := ["internal/abi.NoEscape", "internal/bytealg.MakeNoZero", "internal/bytealg.IndexByte", "internal/bytealg.Index", "fmt.errorf"], unfollowed := true, recurses := true, named := ["io.EOF", "bufio.ErrNegativeCount", "bufio.ErrBufferFull", "bufio.errNegativeRead", "io.ErrNoProgress", "encoding/csv.errInvalidDelim", "encoding/csv.ErrBareQuote", "encoding/csv.ErrQuote", "encoding/csv.ErrFieldCount", "unicode/utf8.first", "unicode/utf8.acceptRanges", "unicode.White_Space", "internal/bytealg.MaxLen"], apart := false, laid := [("unicode/utf8.acceptRanges", laid_unicode_utf8_acceptRanges), ("io.EOF", laid_io_EOF), ("io.ErrNoProgress", laid_io_ErrNoProgress), ("unicode.White_Space", laid_unicode_White_Space), ("bufio.ErrBufferFull", laid_bufio_ErrBufferFull), ("bufio.ErrNegativeCount", laid_bufio_ErrNegativeCount), ("bufio.errNegativeRead", laid_bufio_errNegativeRead), ("encoding/csv.ErrBareQuote", laid_encoding_csv_ErrBareQuote), ("encoding/csv.ErrQuote", laid_encoding_csv_ErrQuote), ("encoding/csv.ErrFieldCount", laid_encoding_csv_ErrFieldCount), ("encoding/csv.errInvalidDelim", laid_encoding_csv_errInvalidDelim), ("unicode/utf8.first", laid_unicode_utf8_first)] }
/-- NO THEOREM (fmt's text is open here; it may be false): for the released tool's asking of the row's closed facts alone. THE STATEMENT IS 'FnReaderRowsMatchCommaLineModelToldSaid' (Qxb6614395aFmtCards.lean). -/
def FnReaderRowsMatchCommaLineModelFormAsk : Prop := fnReaderRowsMatchCommaLineModelRow.holds Tryf.pinned (OpenSpec.ofChange fnReaderRowsMatchCommaLineModelSpec)

/-- ITS FALSE NEIGHBOUR: 'it returns false'. Refute it at one input. -/
def fnReaderRowsMatchCommaLineModelWrong : ChangeSpec := { name := "fnReaderRowsMatchCommaLineModel", fn := fun _ => fun
  | [d1, d2, d3] => { results := [.lit (.bool false)], args := [d1, d2, d3] }
  | _ => none }
def FnReaderRowsMatchCommaLineModelWrongFormAsk : Prop := fnReaderRowsMatchCommaLineModelRow.holds Tryf.pinned (OpenSpec.ofChange fnReaderRowsMatchCommaLineModelWrong)

/-- 'zzlaws_internal_csvtable_b1.FnReaderRepeatedHeaderLineIsFirstRow': WHATEVER THE INPUT: true; the input reads as it did. -/
def fnReaderRepeatedHeaderLineIsFirstRowSpec : ChangeSpec := { name := "fnReaderRepeatedHeaderLineIsFirstRow", fn := fun _ => fun
  | [d1, d2, d3] => { results := [.lit (.bool true)], args := [d1, d2, d3] }
  | _ => none }
def fnReaderRepeatedHeaderLineIsFirstRowRow : OpenClaim := { program := "qxb6614395afmt", sum := "3f4fa274553c0830a54067dd8d1bc177874937a1518685d9355143a4a73f4f2d", func := "example.com/tierfold/tierfold/zzlaws_internal_csvtable_b1.FnReaderRepeatedHeaderLineIsFirstRow", spec := "fnReaderRepeatedHeaderLineIsFirstRow", stops := ["fmt.errorf"], inPlace := ["internal/abi.NoEscape", "internal/bytealg.MakeNoZero", "internal/bytealg.IndexByte", "internal/bytealg.Index", "fmt.errorf"], unfollowed := true, recurses := true, named := ["io.EOF", "bufio.ErrNegativeCount", "bufio.ErrBufferFull", "bufio.errNegativeRead", "io.ErrNoProgress", "encoding/csv.errInvalidDelim", "encoding/csv.ErrBareQuote", "encoding/csv.ErrQuote", "encoding/csv.ErrFieldCount", "unicode/utf8.first", "unicode/utf8.acceptRanges", "unicode.White_Space", "internal/bytealg.MaxLen"], apart := false, laid := [("unicode/utf8.acceptRanges", laid_unicode_utf8_acceptRanges), ("io.EOF", laid_io_EOF), ("io.ErrNoProgress", laid_io_ErrNoProgress), ("unicode.White_Space", laid_unicode_White_Space), ("bufio.ErrBufferFull", laid_bufio_ErrBufferFull), ("bufio.ErrNegativeCount", laid_bufio_ErrNegativeCount), ("bufio.errNegativeRead", laid_bufio_errNegativeRead), ("encoding/csv.ErrBareQuote", laid_encoding_csv_ErrBareQuote), ("encoding/csv.ErrQuote", laid_encoding_csv_ErrQuote), ("encoding/csv.ErrFieldCount", laid_encoding_csv_ErrFieldCount), ("encoding/csv.errInvalidDelim", laid_encoding_csv_errInvalidDelim), ("unicode/utf8.first", laid_unicode_utf8_first)] }
/-- NO THEOREM (fmt's text is open here; it may be false): for the released tool's asking of the row's closed facts alone. THE STATEMENT IS 'FnReaderRepeatedHeaderLineIsFirstRowToldSaid' (Qxb6614395aFmtCards.lean). -/
def FnReaderRepeatedHeaderLineIsFirstRowFormAsk : Prop := fnReaderRepeatedHeaderLineIsFirstRowRow.holds Tryf.pinned (OpenSpec.ofChange fnReaderRepeatedHeaderLineIsFirstRowSpec)

/-- ITS FALSE NEIGHBOUR: 'it returns false'. Refute it at one input. -/
def fnReaderRepeatedHeaderLineIsFirstRowWrong : ChangeSpec := { name := "fnReaderRepeatedHeaderLineIsFirstRow", fn := fun _ => fun
  | [d1, d2, d3] => { results := [.lit (.bool false)], args := [d1, d2, d3] }
  | _ => none }
def FnReaderRepeatedHeaderLineIsFirstRowWrongFormAsk : Prop := fnReaderRepeatedHeaderLineIsFirstRowRow.holds Tryf.pinned (OpenSpec.ofChange fnReaderRepeatedHeaderLineIsFirstRowWrong)

/-- 'zzlaws_internal_csvtable_b1.FnRowLimitChunkedReadsMatchByteModel': WHATEVER THE INPUT: true; the input reads as it did. -/
def fnRowLimitChunkedReadsMatchByteModelSpec : ChangeSpec := { name := "fnRowLimitChunkedReadsMatchByteModel", fn := fun _ => fun
  | [d1, d2, d3, d4, d5, d6] => { results := [.lit (.bool true)], args := [d1, d2, d3, d4, d5, d6] }
  | _ => none }
def fnRowLimitChunkedReadsMatchByteModelRow : OpenClaim := { program := "qxb6614395afmt", sum := "3f4fa274553c0830a54067dd8d1bc177874937a1518685d9355143a4a73f4f2d", func := "example.com/tierfold/tierfold/zzlaws_internal_csvtable_b1.FnRowLimitChunkedReadsMatchByteModel", spec := "fnRowLimitChunkedReadsMatchByteModel", stops := ["fmt.errorf"], inPlace := ["internal/bytealg.IndexByte", "fmt.errorf", "internal/bytealg.Count", "internal/bytealg.Index"], unfollowed := true, recurses := true, named := ["internal/bytealg.MaxLen"], apart := false }
/-- NO THEOREM (fmt's text is open here; it may be false): for the released tool's asking of the row's closed facts alone. THE STATEMENT IS 'FnRowLimitChunkedReadsMatchByteModelToldSaid' (Qxb6614395aFmtCards.lean). -/
def FnRowLimitChunkedReadsMatchByteModelFormAsk : Prop := fnRowLimitChunkedReadsMatchByteModelRow.holds Tryf.pinned (OpenSpec.ofChange fnRowLimitChunkedReadsMatchByteModelSpec)

/-- ITS FALSE NEIGHBOUR: 'it returns false'. Refute it at one input. -/
def fnRowLimitChunkedReadsMatchByteModelWrong : ChangeSpec := { name := "fnRowLimitChunkedReadsMatchByteModel", fn := fun _ => fun
  | [d1, d2, d3, d4, d5, d6] => { results := [.lit (.bool false)], args := [d1, d2, d3, d4, d5, d6] }
  | _ => none }
def FnRowLimitChunkedReadsMatchByteModelWrongFormAsk : Prop := fnRowLimitChunkedReadsMatchByteModelRow.holds Tryf.pinned (OpenSpec.ofChange fnRowLimitChunkedReadsMatchByteModelWrong)

/-- 'zzlaws_internal_csvtable_b1.FnRowLimitChunkSizeMovesOnlyTheStop': WHATEVER THE INPUT: true; the input reads as it did. -/
def fnRowLimitChunkSizeMovesOnlyTheStopSpec : ChangeSpec := { name := "fnRowLimitChunkSizeMovesOnlyTheStop", fn := fun _ => fun
  | [d1, d2, d3, d4, d5, d6, d7] => { results := [.lit (.bool true)], args := [d1, d2, d3, d4, d5, d6, d7] }
  | _ => none }
def fnRowLimitChunkSizeMovesOnlyTheStopRow : OpenClaim := { program := "qxb6614395afmt", sum := "3f4fa274553c0830a54067dd8d1bc177874937a1518685d9355143a4a73f4f2d", func := "example.com/tierfold/tierfold/zzlaws_internal_csvtable_b1.FnRowLimitChunkSizeMovesOnlyTheStop", spec := "fnRowLimitChunkSizeMovesOnlyTheStop", stops := ["fmt.errorf"], inPlace := ["internal/bytealg.IndexByte", "fmt.errorf", "internal/bytealg.Count", "internal/bytealg.Index"], unfollowed := true, recurses := true, named := ["internal/bytealg.MaxLen"], apart := false }
/-- NO THEOREM (fmt's text is open here; it may be false): for the released tool's asking of the row's closed facts alone. THE STATEMENT IS 'FnRowLimitChunkSizeMovesOnlyTheStopToldSaid' (Qxb6614395aFmtCards.lean). -/
def FnRowLimitChunkSizeMovesOnlyTheStopFormAsk : Prop := fnRowLimitChunkSizeMovesOnlyTheStopRow.holds Tryf.pinned (OpenSpec.ofChange fnRowLimitChunkSizeMovesOnlyTheStopSpec)

/-- ITS FALSE NEIGHBOUR: 'it returns false'. Refute it at one input. -/
def fnRowLimitChunkSizeMovesOnlyTheStopWrong : ChangeSpec := { name := "fnRowLimitChunkSizeMovesOnlyTheStop", fn := fun _ => fun
  | [d1, d2, d3, d4, d5, d6, d7] => { results := [.lit (.bool false)], args := [d1, d2, d3, d4, d5, d6, d7] }
  | _ => none }
def FnRowLimitChunkSizeMovesOnlyTheStopWrongFormAsk : Prop := fnRowLimitChunkSizeMovesOnlyTheStopRow.holds Tryf.pinned (OpenSpec.ofChange fnRowLimitChunkSizeMovesOnlyTheStopWrong)

end Rows
end Go.Proofs.Qxb6614395aFmt
