/-
  DERIVED. GIVEN WITH THE SEED: THE CARDS: each row of YbulkbgnqDoorRows.lean that lists a variable, with what it lists TIED to the program's text (the seventh form; the later family's looks); each row that meets fmt, with fmt's text TOLD by the authors' own Lean function (tested against real Go, not proved from fmt's source: count such statements apart). THE CARD IS WHAT COUNTS. Prove the row's statement (the work); the ties are given (YbulkbgnqDoorTie.lean); close each card by the builder's one call (the guide's Derived/Test/ToyasCard.lean, 'card_holds'). Laid BY PROGRAM, IN A SANDBOX (cutbox-door.mjs). By AI agents, Wed Nov 11 2026. No macro, syntax, notation, axiom, sorry.
-/
import Derived.Test.YbulkbgnqDoorRows
import GoSem.ClaimSeven
namespace Go.Proofs.YbulkbgnqDoor
namespace Rows

/-- THE TIED CARD OF 'commutant.LawS2876AModel'. -/
def lawS2876AModelCard : Claim7 := { stood := { row := lawS2876AModelRow, standIns := [], harness := (true, "100aa5db391b2c19e5465d6045bb5f64231c94d2374dda353d9eff61e1d55566"), looks := true }, kinds := [], alts := [], laidByText := true, laidKinds := [.data, .data, .data, .sentinel, .sentinel], laidTests := true, laidLooks := .later }
def LawS2876AModelCardSaid : Prop := Claim7.holds Ybad.pinned (.plain (OpenSpec.ofChange lawS2876AModelSpec)) lawS2876AModelCard

/-- THE TIED CARD OF 'commutant.LawS2876ARunID'. -/
def lawS2876ARunIDCard : Claim7 := { stood := { row := lawS2876ARunIDRow, standIns := [], harness := (true, "100aa5db391b2c19e5465d6045bb5f64231c94d2374dda353d9eff61e1d55566"), looks := true }, kinds := [], alts := [], laidByText := true, laidKinds := [.data, .data, .data, .sentinel, .sentinel], laidTests := true, laidLooks := .later }
def LawS2876ARunIDCardSaid : Prop := Claim7.holds Ybad.pinned (.plain (OpenSpec.ofChange lawS2876ARunIDSpec)) lawS2876ARunIDCard
end Rows
end Go.Proofs.YbulkbgnqDoor
