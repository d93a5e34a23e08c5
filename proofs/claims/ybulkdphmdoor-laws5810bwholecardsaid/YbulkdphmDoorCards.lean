/-
  DERIVED. GIVEN WITH THE SEED: THE CARDS: each row of YbulkdphmDoorRows.lean that lists a variable, with what it lists TIED to the program's text (the seventh form; the later family's looks); each row that meets fmt, with fmt's text TOLD by the authors' own Lean function (tested against real Go, not proved from fmt's source: count such statements apart). THE CARD IS WHAT COUNTS. Prove the row's statement (the work); the ties are given (YbulkdphmDoorTie.lean); close each card by the builder's one call (the guide's Derived/Test/ToyasCard.lean, 'card_holds'). Laid BY PROGRAM, IN A SANDBOX (cutbox-door.mjs). By AI agents, Wed Nov 11 2026. No macro, syntax, notation, axiom, sorry.
-/
import Derived.Test.YbulkdphmDoorRows
import GoSem.ClaimSeven
namespace Go.Proofs.YbulkdphmDoor
namespace Rows

/-- THE TIED CARD OF 'snmp.LawS5810BWhole'. -/
def lawS5810BWholeCard : Claim7 := { stood := { row := lawS5810BWholeRow, standIns := [], harness := (true, "b9fd4b252bc9302dbd4aed9f5239e96d46d48a85e646b950b4ab733931cdc107"), looks := false }, kinds := [], alts := [], laidByText := true, laidKinds := [.data, .data, .data, .called, .called, .zero], laidTests := true, laidLooks := .later }
def LawS5810BWholeCardSaid : Prop := Claim7.holds Ybad.pinned (.plain (OpenSpec.ofChange lawS5810BWholeSpec)) lawS5810BWholeCard
end Rows
end Go.Proofs.YbulkdphmDoor
