/-
  DERIVED. GIVEN WITH THE SEED: THE CARDS: each row of Qxb6614133aDoorRows.lean that lists a variable, with what it lists TIED to the program's text (the seventh form; the later family's looks); each row that meets fmt, with fmt's text TOLD by the authors' own Lean function (tested against real Go, not proved from fmt's source: count such statements apart). THE CARD IS WHAT COUNTS. Prove the row's statement (the work); the ties are given (Qxb6614133aDoorTie.lean); close each card by the builder's one call (the guide's Derived/Test/ToyasCard.lean, 'card_holds'). Laid BY PROGRAM, IN A SANDBOX (cutbox-door.mjs). By AI agents, Wed Nov 11 2026. No macro, syntax, notation, axiom, sorry.
-/
import Derived.Test.Qxb6614133aDoorRows
import GoSem.ClaimSeven
namespace Go.Proofs.Qxb6614133aDoor
namespace Rows

/-- THE TIED CARD OF 'zzlaws_root_b1.FnParametersStopsAndCarriesOn'. -/
def fnParametersStopsAndCarriesOnCard : Claim7 := { stood := { row := fnParametersStopsAndCarriesOnRow, standIns := [], harness := (true, "65a1fcd6c0d04a49577ab2f94f1341a879c3c421a2bc8c6ebc3882046a25de7d"), looks := false }, kinds := [], alts := [], laidByText := true, laidKinds := [.data, .pinned], laidTests := true, laidLooks := .later }
def FnParametersStopsAndCarriesOnCardSaid : Prop := Claim7.holds Tryd.pinned (.plain (OpenSpec.ofChange fnParametersStopsAndCarriesOnSpec)) fnParametersStopsAndCarriesOnCard
end Rows
end Go.Proofs.Qxb6614133aDoor
