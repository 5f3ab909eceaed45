/-
  DERIVED. GIVEN WITH THE SEED: THE CARDS: each row of Qxb6609089aDoorRows.lean that lists a variable, with what it lists TIED to the program's text (the seventh form; the later family's looks); each row that meets fmt, with fmt's text TOLD by the authors' own Lean function (tested against real Go, not proved from fmt's source: count such statements apart). THE CARD IS WHAT COUNTS. Prove the row's statement (the work); the ties are given (Qxb6609089aDoorTie.lean); close each card by the builder's one call (the guide's Derived/Test/ToyasCard.lean, 'card_holds'). Laid BY PROGRAM, IN A SANDBOX (cutbox-door.mjs). By AI agents, Wed Nov 11 2026. No macro, syntax, notation, axiom, sorry.
-/
import Derived.Test.Qxb6609089aDoorRows
import GoSem.ClaimSeven
namespace Go.Proofs.Qxb6609089aDoor
namespace Rows

/-- THE TIED CARD OF 'zzlaws_trace_b1.FnCanonicalKeepsTheValueInOneForm'. -/
def fnCanonicalKeepsTheValueInOneFormCard : Claim7 := { stood := { row := fnCanonicalKeepsTheValueInOneFormRow, standIns := [], harness := (true, "2c245ce60ccd8ce22fed2950b7fbe840edf3803146a7d1711c25f2744d117516"), looks := false }, kinds := [], alts := [], laidByText := true, laidKinds := [.data, .sentinel, .pinned, .pinned, .pinned, .pinned, .pinned, .pinned], laidTests := true, laidLooks := .later }
def FnCanonicalKeepsTheValueInOneFormCardSaid : Prop := Claim7.holds Tryd.pinned (.plain (OpenSpec.ofChange fnCanonicalKeepsTheValueInOneFormSpec)) fnCanonicalKeepsTheValueInOneFormCard

/-- THE TIED CARD OF 'zzlaws_trace_b1.FnCanonicalEqualExactlyForSameValue'. -/
def fnCanonicalEqualExactlyForSameValueCard : Claim7 := { stood := { row := fnCanonicalEqualExactlyForSameValueRow, standIns := [], harness := (true, "2c245ce60ccd8ce22fed2950b7fbe840edf3803146a7d1711c25f2744d117516"), looks := false }, kinds := [], alts := [], laidByText := true, laidKinds := [.data, .sentinel, .pinned, .pinned, .pinned, .pinned, .pinned, .pinned], laidTests := true, laidLooks := .later }
def FnCanonicalEqualExactlyForSameValueCardSaid : Prop := Claim7.holds Tryd.pinned (.plain (OpenSpec.ofChange fnCanonicalEqualExactlyForSameValueSpec)) fnCanonicalEqualExactlyForSameValueCard

/-- THE TIED CARD OF 'zzlaws_trace_b1.FnReadyAtALineBoundary'. -/
def fnReadyAtALineBoundaryCard : Claim7 := { stood := { row := fnReadyAtALineBoundaryRow, standIns := [], harness := (true, "2c245ce60ccd8ce22fed2950b7fbe840edf3803146a7d1711c25f2744d117516"), looks := false }, kinds := [], alts := [], laidByText := true, laidKinds := [.data, .sentinel, .listed, .pinned], laidTests := true, laidLooks := .later }
def FnReadyAtALineBoundaryCardSaid : Prop := Claim7.holds Tryd.pinned (.plain (OpenSpec.ofChange fnReadyAtALineBoundarySpec)) fnReadyAtALineBoundaryCard
end Rows
end Go.Proofs.Qxb6609089aDoor
