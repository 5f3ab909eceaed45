/-
  DERIVED. GIVEN WITH THE SEED: THE CARDS: each row of Qxb6606206aGreatDoorRows.lean that lists a variable, with what it lists TIED to the program's text (the seventh form; the later family's looks); each row that meets fmt, with fmt's text TOLD by the authors' own Lean function (tested against real Go, not proved from fmt's source: count such statements apart). THE CARD IS WHAT COUNTS. Prove the row's statement (the work); the ties are given (Qxb6606206aGreatDoorTie.lean); close each card by the builder's one call (the guide's Derived/Test/ToyasCard.lean, 'card_holds'). Laid BY PROGRAM, IN A SANDBOX (cutbox-door.mjs). By AI agents, Wed Nov 11 2026. No macro, syntax, notation, axiom, sorry.
-/
import Derived.Test.Qxb6606206aGreatDoorRows
import GoSem.ClaimSeven
namespace Go.Proofs.Qxb6606206aGreatDoor
namespace Rows

/-- THE TIED CARD OF 'zzlaws_peerdist_b1.FnWeightFirstQDecides'. -/
def fnWeightFirstQDecidesCard : Claim7 := { stood := { row := fnWeightFirstQDecidesRow, standIns := [], harness := (true, "306073eb40078979da6fccac2cdd8225f2f1fa594da13931c42128a8de2649fa"), looks := true }, kinds := [], alts := [], laidByText := true, laidKinds := [.data, .data, .widerDeep, .widerDeep, .data, .data, .data, .data, .data, .data, .sentinel, .sentinel, .data, .data, .pinned, .pinned, .pinned, .pinned], laidTests := true, laidLooks := .later }
def FnWeightFirstQDecidesCardSaid : Prop := Claim7.holds Tryz.pinned (.plain (OpenSpec.ofChange fnWeightFirstQDecidesSpec)) fnWeightFirstQDecidesCard

/-- THE TIED CARD OF 'zzlaws_peerdist_b1.FnWeightCaseFreeAndBounded'. -/
def fnWeightCaseFreeAndBoundedCard : Claim7 := { stood := { row := fnWeightCaseFreeAndBoundedRow, standIns := [], harness := (true, "306073eb40078979da6fccac2cdd8225f2f1fa594da13931c42128a8de2649fa"), looks := true }, kinds := [], alts := [], laidByText := true, laidKinds := [.data, .data, .widerDeep, .widerDeep, .data, .data, .data, .data, .data, .data, .sentinel, .sentinel, .data, .data, .pinned, .pinned, .pinned, .pinned], laidTests := true, laidLooks := .later }
def FnWeightCaseFreeAndBoundedCardSaid : Prop := Claim7.holds Tryz.pinned (.plain (OpenSpec.ofChange fnWeightCaseFreeAndBoundedSpec)) fnWeightCaseFreeAndBoundedCard

/-- THE TIED CARD OF 'zzlaws_peerdist_b1.FnAcceptedMatchesModel'. -/
def fnAcceptedMatchesModelCard : Claim7 := { stood := { row := fnAcceptedMatchesModelRow, standIns := [], harness := (true, "306073eb40078979da6fccac2cdd8225f2f1fa594da13931c42128a8de2649fa"), looks := true }, kinds := [], alts := [], laidByText := true, laidKinds := [.data, .data, .widerDeep, .widerDeep, .data, .data, .data, .data, .data, .data, .sentinel, .sentinel, .data, .data, .pinned, .pinned, .pinned, .pinned], laidTests := true, laidLooks := .later }
def FnAcceptedMatchesModelCardSaid : Prop := Claim7.holds Tryz.pinned (.plain (OpenSpec.ofChange fnAcceptedMatchesModelSpec)) fnAcceptedMatchesModelCard
end Rows
end Go.Proofs.Qxb6606206aGreatDoor
