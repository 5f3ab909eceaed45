/-
  DERIVED. GIVEN WITH THE SEED: THE CARDS: each row of Qxb6614395aFmtRows.lean that lists a variable, with what it lists TIED to the program's text (the seventh form; the later family's looks); each row that meets fmt, with fmt's text TOLD by the authors' own Lean function (tested against real Go, not proved from fmt's source: count such statements apart). THE CARD IS WHAT COUNTS. Prove the row's statement (the work); the ties are given (Qxb6614395aFmtTie.lean); close each card by the builder's one call (the guide's Derived/Test/ToyasCard.lean, 'card_holds'). Laid BY PROGRAM, IN A SANDBOX (cutbox-door.mjs). By AI agents, Wed Nov 11 2026. No macro, syntax, notation, axiom, sorry.
-/
import Derived.Test.Qxb6614395aFmtRows
import GoSem.ClaimSeven
namespace Go.Proofs.Qxb6614395aFmt
namespace Rows

/-- THE TOLD AND TIED CARD OF 'zzlaws_internal_csvtable_b1.FnReaderRowsMatchCommaLineModel'. -/
def fnReaderRowsMatchCommaLineModelCard : Claim7 := { stood := { row := fnReaderRowsMatchCommaLineModelRow, standIns := [], harness := (true, "62d67632cab4dd713566e4f509666215bc31affd91f1ccca030c4ccac58332b1"), looks := true }, told := true, laidByText := true, laidKinds := [.data, .sentinel, .sentinel, .listed, .sentinel, .sentinel, .sentinel, .sentinel, .sentinel, .sentinel, .sentinel, .pinned], laidTests := true, laidLooks := .later, goes := false }
def FnReaderRowsMatchCommaLineModelToldSaid : Prop := Claim7.holds Tryf.pinned (.plain (OpenSpec.ofChange fnReaderRowsMatchCommaLineModelSpec)) fnReaderRowsMatchCommaLineModelCard
/-- ITS FALSE NEIGHBOUR. Refute it at one input. -/
def FnReaderRowsMatchCommaLineModelToldWrongFalsely : Prop := Claim7.holds Tryf.pinned (.plain (OpenSpec.ofChange fnReaderRowsMatchCommaLineModelWrong)) fnReaderRowsMatchCommaLineModelCard

/-- THE TOLD AND TIED CARD OF 'zzlaws_internal_csvtable_b1.FnReaderRepeatedHeaderLineIsFirstRow'. -/
def fnReaderRepeatedHeaderLineIsFirstRowCard : Claim7 := { stood := { row := fnReaderRepeatedHeaderLineIsFirstRowRow, standIns := [], harness := (true, "62d67632cab4dd713566e4f509666215bc31affd91f1ccca030c4ccac58332b1"), looks := true }, told := true, laidByText := true, laidKinds := [.data, .sentinel, .sentinel, .listed, .sentinel, .sentinel, .sentinel, .sentinel, .sentinel, .sentinel, .sentinel, .pinned], laidTests := true, laidLooks := .later, goes := false }
def FnReaderRepeatedHeaderLineIsFirstRowToldSaid : Prop := Claim7.holds Tryf.pinned (.plain (OpenSpec.ofChange fnReaderRepeatedHeaderLineIsFirstRowSpec)) fnReaderRepeatedHeaderLineIsFirstRowCard
/-- ITS FALSE NEIGHBOUR. Refute it at one input. -/
def FnReaderRepeatedHeaderLineIsFirstRowToldWrongFalsely : Prop := Claim7.holds Tryf.pinned (.plain (OpenSpec.ofChange fnReaderRepeatedHeaderLineIsFirstRowWrong)) fnReaderRepeatedHeaderLineIsFirstRowCard

/-- THE TOLD CARD OF 'zzlaws_internal_csvtable_b1.FnRowLimitChunkedReadsMatchByteModel'. -/
def fnRowLimitChunkedReadsMatchByteModelCard : Claim7 := { stood := { row := fnRowLimitChunkedReadsMatchByteModelRow, standIns := [], harness := (true, "62d67632cab4dd713566e4f509666215bc31affd91f1ccca030c4ccac58332b1"), looks := true }, told := true, goes := false }
def FnRowLimitChunkedReadsMatchByteModelToldSaid : Prop := Claim7.holds Tryf.pinned (.plain (OpenSpec.ofChange fnRowLimitChunkedReadsMatchByteModelSpec)) fnRowLimitChunkedReadsMatchByteModelCard
/-- ITS FALSE NEIGHBOUR. Refute it at one input. -/
def FnRowLimitChunkedReadsMatchByteModelToldWrongFalsely : Prop := Claim7.holds Tryf.pinned (.plain (OpenSpec.ofChange fnRowLimitChunkedReadsMatchByteModelWrong)) fnRowLimitChunkedReadsMatchByteModelCard

/-- THE TOLD CARD OF 'zzlaws_internal_csvtable_b1.FnRowLimitChunkSizeMovesOnlyTheStop'. -/
def fnRowLimitChunkSizeMovesOnlyTheStopCard : Claim7 := { stood := { row := fnRowLimitChunkSizeMovesOnlyTheStopRow, standIns := [], harness := (true, "62d67632cab4dd713566e4f509666215bc31affd91f1ccca030c4ccac58332b1"), looks := true }, told := true, goes := false }
def FnRowLimitChunkSizeMovesOnlyTheStopToldSaid : Prop := Claim7.holds Tryf.pinned (.plain (OpenSpec.ofChange fnRowLimitChunkSizeMovesOnlyTheStopSpec)) fnRowLimitChunkSizeMovesOnlyTheStopCard
/-- ITS FALSE NEIGHBOUR. Refute it at one input. -/
def FnRowLimitChunkSizeMovesOnlyTheStopToldWrongFalsely : Prop := Claim7.holds Tryf.pinned (.plain (OpenSpec.ofChange fnRowLimitChunkSizeMovesOnlyTheStopWrong)) fnRowLimitChunkSizeMovesOnlyTheStopCard
end Rows
end Go.Proofs.Qxb6614395aFmt
