/-
  DERIVED. GIVEN WITH THE SEED: THE CARDS: each row of YbulkdpccDoorRows.lean that lists a variable, with what it lists TIED to the program's text (the seventh form; the later family's looks); each row that meets fmt, with fmt's text TOLD by the authors' own Lean function (tested against real Go, not proved from fmt's source: count such statements apart). THE CARD IS WHAT COUNTS. Prove the row's statement (the work); the ties are given (YbulkdpccDoorTie.lean); close each card by the builder's one call (the guide's Derived/Test/ToyasCard.lean, 'card_holds'). Laid BY PROGRAM, IN A SANDBOX (cutbox-door.mjs). By AI agents, Wed Nov 11 2026. No macro, syntax, notation, axiom, sorry.
-/
import Derived.Test.YbulkdpccDoorRows
import GoSem.ClaimSeven
namespace Go.Proofs.YbulkdpccDoor
namespace Rows

/-- THE TIED CARD OF 'leafline.LawS5800AWhole'. -/
def lawS5800AWholeCard : Claim7 := { stood := { row := lawS5800AWholeRow, standIns := [], harness := (true, "a3fc5c8e05daf2a6d8cd5ac634c206be830a9f00e2eb1fa420ed228d4b8b95ec"), looks := true }, kinds := [], alts := [], laidByText := true, laidKinds := [.sentinel], laidTests := true, laidLooks := .later }
def LawS5800AWholeCardSaid : Prop := Claim7.holds Ybad.pinned (.plain (OpenSpec.ofChange lawS5800AWholeSpec)) lawS5800AWholeCard
end Rows
end Go.Proofs.YbulkdpccDoor
