/-
  DERIVED. GIVEN WITH THE SEED: THE CARDS: each row of YbulkdpccFmtRows.lean that lists a variable, with what it lists TIED to the program's text (the seventh form; the later family's looks); each row that meets fmt, with fmt's text TOLD by the authors' own Lean function (tested against real Go, not proved from fmt's source: count such statements apart). THE CARD IS WHAT COUNTS. Prove the row's statement (the work); the ties are given (YbulkdpccFmtTie.lean); close each card by the builder's one call (the guide's Derived/Test/ToyasCard.lean, 'card_holds'). Laid BY PROGRAM, IN A SANDBOX (cutbox-door.mjs). By AI agents, Wed Nov 11 2026. No macro, syntax, notation, axiom, sorry.
-/
import Derived.Test.YbulkdpccFmtRows
import GoSem.ClaimSeven
namespace Go.Proofs.YbulkdpccFmt
namespace Rows

/-- THE TOLD AND TIED CARD OF 'leafline.LawS5800CWhole'. -/
def lawS5800CWholeCard : Claim7 := { stood := { row := lawS5800CWholeRow, standIns := [], harness := (true, "242dfbd6da5c0033f8047e39ba6c226563d511f971b955c5c5513eb06d818f6f"), looks := true }, told := true, laidByText := true, laidKinds := [.sentinel, .mapped], laidTests := true, laidLooks := .later, goes := false }
def LawS5800CWholeToldSaid : Prop := Claim7.holds Ybaf.pinned (.plain (OpenSpec.ofChange lawS5800CWholeSpec)) lawS5800CWholeCard
/-- ITS FALSE NEIGHBOUR. Refute it at one input. -/
def LawS5800CWholeToldWrongFalsely : Prop := Claim7.holds Ybaf.pinned (.plain (OpenSpec.ofChange lawS5800CWholeWrong)) lawS5800CWholeCard
end Rows
end Go.Proofs.YbulkdpccFmt
