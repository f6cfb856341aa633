/-
  DERIVED. GIVEN WITH THE SEED: THE CARDS: each row of YbulkbgkkDoorRows.lean that lists a variable, with what it lists TIED to the program's text (the seventh form; the later family's looks); each row that meets fmt, with fmt's text TOLD by the authors' own Lean function (tested against real Go, not proved from fmt's source: count such statements apart). THE CARD IS WHAT COUNTS. Prove the row's statement (the work); the ties are given (YbulkbgkkDoorTie.lean); close each card by the builder's one call (the guide's Derived/Test/ToyasCard.lean, 'card_holds'). Laid BY PROGRAM, IN A SANDBOX (cutbox-door.mjs). By AI agents, Wed Nov 11 2026. No macro, syntax, notation, axiom, sorry.
-/
import Derived.Test.YbulkbgkkDoorRows
import GoSem.ClaimSeven
namespace Go.Proofs.YbulkbgkkDoor
namespace Rows

/-- THE TIED CARD OF 'peer.LawS2870ARecords'. -/
def lawS2870ARecordsCard : Claim7 := { stood := { row := lawS2870ARecordsRow, standIns := [], harness := (true, "64f1708ba16fb7826417a793a5b28d2e76a70a4d1977256921d96dbc7853e71d"), looks := false }, kinds := [], alts := [], laidByText := true, laidKinds := [.data], laidTests := true, laidLooks := .later }
def LawS2870ARecordsCardSaid : Prop := Claim7.holds Ybad.pinned (.plain (OpenSpec.ofChange lawS2870ARecordsSpec)) lawS2870ARecordsCard

/-- THE TIED CARD OF 'peer.LawS2870AHistory'. -/
def lawS2870AHistoryCard : Claim7 := { stood := { row := lawS2870AHistoryRow, standIns := [], harness := (true, "64f1708ba16fb7826417a793a5b28d2e76a70a4d1977256921d96dbc7853e71d"), looks := false }, kinds := [], alts := [], laidByText := true, laidKinds := [.data], laidTests := true, laidLooks := .later }
def LawS2870AHistoryCardSaid : Prop := Claim7.holds Ybad.pinned (.plain (OpenSpec.ofChange lawS2870AHistorySpec)) lawS2870AHistoryCard
end Rows
end Go.Proofs.YbulkbgkkDoor
