/-
  NARROWER THAN 'FOR EVERY INPUT', by the rows' own cells (each row's printed sentence says how): FnCanonicalKeepsTheValueInOneForm: laid · FnCanonicalEqualExactlyForSameValue: laid · FnReadyAtALineBoundary: laid.
  DERIVED. THE GIVEN ROWS OF THIS SEAT. 3 by the template 'for every input the law returns true; each argument reads behind the call as it read before'; 0 by the template 'total and deterministic' (their statements: Qxb6609089aDoorTotals.lean).
  GIVEN WITH THE SEED: the statements are not yours to turn. If you find one false, say at which input.
  Laid BY PROGRAM, IN A SANDBOX (cutbox-rows.mjs): the forced cells as the released guide's own fill.sh prints them over the translation a02f204d05f1fb75… (all of the seat's roots in one cut). By AI agents, Wed Nov 11 2026. No macro, syntax, notation, axiom, sorry.
-/
import Derived.Test.Qxb6609089aDoorChecked
import GoSem.PinnedTables
import GoSem.Claim
import GoSem.ClaimJoined
import GoSem.ClaimMapViews
import Derived.JoinedTies
import Derived.KernelRfl
namespace Go.Proofs.Qxb6609089aDoor
/- THE CELL 'sum', in the pinned program and in every row, IS THE sha256 OF THE DUMP (.gsa) THAT Qxb6609089aDoorProg.lean LOADS. Nothing in Lean hashes anything: it is a label: what it is worth is what the hold of that sum in a sandbox is worth. -/
noncomputable def Tryd.pinned : Pinned := { name := "qxb6609089adoor", sum := "a02f204d05f1fb755380bd353368c53d919706671f6044a8a18c02e7fe74df1b", checked := Tryd.checked }
namespace Rows
def none {H : Type} : Left H := { results := [], args := [] }

/- WHAT THE LISTED PACKAGE-LEVEL VARIABLES READ AS WHEN THE CALL BEGINS. Each datum BY PROGRAM (the guide's laid-datum.mjs) off the statement by which the dump's own 'gosem.cut.vars' lays the variable. In a bare row this is a premise. The card (Qxb6609089aDoorCards.lean) ties it to the program's text. -/
def laid_unicode_utf8_acceptRanges {H : Type} : DataW H := .agg [.agg [.lit (.int .u8 128), .lit (.int .u8 191)], .agg [.lit (.int .u8 160), .lit (.int .u8 191)], .agg [.lit (.int .u8 128), .lit (.int .u8 159)], .agg [.lit (.int .u8 144), .lit (.int .u8 191)], .agg [.lit (.int .u8 128), .lit (.int .u8 143)], .agg [.lit (.int .u8 0), .lit (.int .u8 0)], .agg [.lit (.int .u8 0), .lit (.int .u8 0)], .agg [.lit (.int .u8 0), .lit (.int .u8 0)], .agg [.lit (.int .u8 0), .lit (.int .u8 0)], .agg [.lit (.int .u8 0), .lit (.int .u8 0)], .agg [.lit (.int .u8 0), .lit (.int .u8 0)], .agg [.lit (.int .u8 0), .lit (.int .u8 0)], .agg [.lit (.int .u8 0), .lit (.int .u8 0)], .agg [.lit (.int .u8 0), .lit (.int .u8 0)], .agg [.lit (.int .u8 0), .lit (.int .u8 0)], .agg [.lit (.int .u8 0), .lit (.int .u8 0)]]
def laid_strconv_ErrSyntax {H : Type} : DataW H := .iface "*errors.errorString" (.ptr (.agg [.lit (.string [105, 110, 118, 97, 108, 105, 100, 32, 115, 121, 110, 116, 97, 120])]))
/-- One of Go's own tables, pinned by name: the form's constant. -/
def laid_strconv_isGraphic : DataW Unit := Go.Pinned.isGraphic
/-- One of Go's own tables, pinned by name: the form's constant. -/
def laid_strconv_isNotPrint16 : DataW Unit := Go.Pinned.isNotPrint16
/-- One of Go's own tables, pinned by name: the form's constant. -/
def laid_strconv_isNotPrint32 : DataW Unit := Go.Pinned.isNotPrint32
/-- One of Go's own tables, pinned by name: the form's constant. -/
def laid_strconv_isPrint16 : DataW Unit := Go.Pinned.isPrint16
/-- One of Go's own tables, pinned by name: the form's constant. -/
def laid_strconv_isPrint32 : DataW Unit := Go.Pinned.isPrint32
/-- One of Go's own tables, pinned by name: the form's constant. -/
def laid_unicode_utf8_first : DataW Unit := Go.Pinned.utf8First
def laid_io_EOF {H : Type} : DataW H := .iface "*errors.errorString" (.ptr (.agg [.lit (.string [69, 79, 70])]))
def laid_unicode_White_Space {H : Type} : DataW H := .ptr (.agg [.slice [.agg [.lit (.int .u16 9), .lit (.int .u16 13), .lit (.int .u16 1)], .agg [.lit (.int .u16 32), .lit (.int .u16 133), .lit (.int .u16 101)], .agg [.lit (.int .u16 160), .lit (.int .u16 5760), .lit (.int .u16 5600)], .agg [.lit (.int .u16 8192), .lit (.int .u16 8202), .lit (.int .u16 1)], .agg [.lit (.int .u16 8232), .lit (.int .u16 8233), .lit (.int .u16 1)], .agg [.lit (.int .u16 8239), .lit (.int .u16 8287), .lit (.int .u16 48)], .agg [.lit (.int .u16 12288), .lit (.int .u16 12288), .lit (.int .u16 1)]] [], .nil, .lit (.int .i64 2)])

/-- 'zzlaws_trace_b1.FnCanonicalKeepsTheValueInOneForm': WHATEVER THE INPUT: true; the input reads as it did. -/
def fnCanonicalKeepsTheValueInOneFormSpec : ChangeSpec := { name := "fnCanonicalKeepsTheValueInOneForm", fn := fun _ => fun
  | [d1, d2, d3, d4] => { results := [.lit (.bool true)], args := [d1, d2, d3, d4] }
  | _ => none }
def fnCanonicalKeepsTheValueInOneFormRow : OpenClaim := { program := "qxb6609089adoor", sum := "a02f204d05f1fb755380bd353368c53d919706671f6044a8a18c02e7fe74df1b", func := "example.com/beforehand/beforehand/zzlaws_trace_b1.FnCanonicalKeepsTheValueInOneForm", spec := "fnCanonicalKeepsTheValueInOneForm", inPlace := ["internal/bytealg.IndexByteString"], named := ["strconv.ErrSyntax", "unicode/utf8.first", "unicode/utf8.acceptRanges", "strconv.isPrint16", "strconv.isNotPrint16", "strconv.isPrint32", "strconv.isNotPrint32", "strconv.isGraphic"], apart := false, laid := [("unicode/utf8.acceptRanges", laid_unicode_utf8_acceptRanges), ("strconv.ErrSyntax", laid_strconv_ErrSyntax), ("strconv.isGraphic", laid_strconv_isGraphic), ("strconv.isNotPrint16", laid_strconv_isNotPrint16), ("strconv.isNotPrint32", laid_strconv_isNotPrint32), ("strconv.isPrint16", laid_strconv_isPrint16), ("strconv.isPrint32", laid_strconv_isPrint32), ("unicode/utf8.first", laid_unicode_utf8_first)] }
def FnCanonicalKeepsTheValueInOneFormSaid : Prop := fnCanonicalKeepsTheValueInOneFormRow.holds Tryd.pinned (OpenSpec.ofChange fnCanonicalKeepsTheValueInOneFormSpec)

/-- ITS FALSE NEIGHBOUR: 'it returns false'. Refute it at one input. -/
def fnCanonicalKeepsTheValueInOneFormWrong : ChangeSpec := { name := "fnCanonicalKeepsTheValueInOneForm", fn := fun _ => fun
  | [d1, d2, d3, d4] => { results := [.lit (.bool false)], args := [d1, d2, d3, d4] }
  | _ => none }
def FnCanonicalKeepsTheValueInOneFormWrongFalsely : Prop := fnCanonicalKeepsTheValueInOneFormRow.holds Tryd.pinned (OpenSpec.ofChange fnCanonicalKeepsTheValueInOneFormWrong)

/-- 'zzlaws_trace_b1.FnCanonicalEqualExactlyForSameValue': WHATEVER THE INPUT: true; the input reads as it did. -/
def fnCanonicalEqualExactlyForSameValueSpec : ChangeSpec := { name := "fnCanonicalEqualExactlyForSameValue", fn := fun _ => fun
  | [d1, d2, d3, d4, d5, d6, d7, d8] => { results := [.lit (.bool true)], args := [d1, d2, d3, d4, d5, d6, d7, d8] }
  | _ => none }
def fnCanonicalEqualExactlyForSameValueRow : OpenClaim := { program := "qxb6609089adoor", sum := "a02f204d05f1fb755380bd353368c53d919706671f6044a8a18c02e7fe74df1b", func := "example.com/beforehand/beforehand/zzlaws_trace_b1.FnCanonicalEqualExactlyForSameValue", spec := "fnCanonicalEqualExactlyForSameValue", inPlace := ["internal/bytealg.IndexByteString"], named := ["strconv.ErrSyntax", "unicode/utf8.first", "unicode/utf8.acceptRanges", "strconv.isPrint16", "strconv.isNotPrint16", "strconv.isPrint32", "strconv.isNotPrint32", "strconv.isGraphic"], apart := false, laid := [("unicode/utf8.acceptRanges", laid_unicode_utf8_acceptRanges), ("strconv.ErrSyntax", laid_strconv_ErrSyntax), ("strconv.isGraphic", laid_strconv_isGraphic), ("strconv.isNotPrint16", laid_strconv_isNotPrint16), ("strconv.isNotPrint32", laid_strconv_isNotPrint32), ("strconv.isPrint16", laid_strconv_isPrint16), ("strconv.isPrint32", laid_strconv_isPrint32), ("unicode/utf8.first", laid_unicode_utf8_first)] }
def FnCanonicalEqualExactlyForSameValueSaid : Prop := fnCanonicalEqualExactlyForSameValueRow.holds Tryd.pinned (OpenSpec.ofChange fnCanonicalEqualExactlyForSameValueSpec)

/-- ITS FALSE NEIGHBOUR: 'it returns false'. Refute it at one input. -/
def fnCanonicalEqualExactlyForSameValueWrong : ChangeSpec := { name := "fnCanonicalEqualExactlyForSameValue", fn := fun _ => fun
  | [d1, d2, d3, d4, d5, d6, d7, d8] => { results := [.lit (.bool false)], args := [d1, d2, d3, d4, d5, d6, d7, d8] }
  | _ => none }
def FnCanonicalEqualExactlyForSameValueWrongFalsely : Prop := fnCanonicalEqualExactlyForSameValueRow.holds Tryd.pinned (OpenSpec.ofChange fnCanonicalEqualExactlyForSameValueWrong)

/-- 'zzlaws_trace_b1.FnReadyAtALineBoundary': WHATEVER THE INPUT: true; the input reads as it did. -/
def fnReadyAtALineBoundarySpec : ChangeSpec := { name := "fnReadyAtALineBoundary", fn := fun _ => fun
  | [d1, d2, d3, d4, d5] => { results := [.lit (.bool true)], args := [d1, d2, d3, d4, d5] }
  | _ => none }
def fnReadyAtALineBoundaryRow : OpenClaim := { program := "qxb6609089adoor", sum := "a02f204d05f1fb755380bd353368c53d919706671f6044a8a18c02e7fe74df1b", func := "example.com/beforehand/beforehand/zzlaws_trace_b1.FnReadyAtALineBoundary", spec := "fnReadyAtALineBoundary", inPlace := ["internal/bytealg.IndexByte"], unfollowed := true, recurses := true, named := ["io.EOF", "unicode/utf8.first", "unicode/utf8.acceptRanges", "unicode.White_Space"], apart := false, laid := [("unicode/utf8.acceptRanges", laid_unicode_utf8_acceptRanges), ("io.EOF", laid_io_EOF), ("unicode.White_Space", laid_unicode_White_Space), ("unicode/utf8.first", laid_unicode_utf8_first)] }
def FnReadyAtALineBoundarySaid : Prop := fnReadyAtALineBoundaryRow.holds Tryd.pinned (OpenSpec.ofChange fnReadyAtALineBoundarySpec)

/-- ITS FALSE NEIGHBOUR: 'it returns false'. Refute it at one input. -/
def fnReadyAtALineBoundaryWrong : ChangeSpec := { name := "fnReadyAtALineBoundary", fn := fun _ => fun
  | [d1, d2, d3, d4, d5] => { results := [.lit (.bool false)], args := [d1, d2, d3, d4, d5] }
  | _ => none }
def FnReadyAtALineBoundaryWrongFalsely : Prop := fnReadyAtALineBoundaryRow.holds Tryd.pinned (OpenSpec.ofChange fnReadyAtALineBoundaryWrong)

end Rows
end Go.Proofs.Qxb6609089aDoor
