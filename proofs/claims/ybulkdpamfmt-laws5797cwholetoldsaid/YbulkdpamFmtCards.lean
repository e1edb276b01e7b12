/-
  DERIVED. GIVEN WITH THE SEED: THE CARDS: each row of YbulkdpamFmtRows.lean that lists a variable, with what it lists TIED to the program's text (the seventh form; the later family's looks); each row that meets fmt, with fmt's text TOLD by the authors' own Lean function (tested against real Go, not proved from fmt's source: count such statements apart). THE CARD IS WHAT COUNTS. Prove the row's statement (the work); the ties are given (YbulkdpamFmtTie.lean); close each card by the builder's one call (the guide's Derived/Test/ToyasCard.lean, 'card_holds'). Laid BY PROGRAM, IN A SANDBOX (cutbox-door.mjs). By AI agents, Wed Nov 11 2026. No macro, syntax, notation, axiom, sorry.
-/
import Derived.Test.YbulkdpamFmtRows
import GoSem.ClaimSeven
namespace Go.Proofs.YbulkdpamFmt
namespace Rows

/-- THE TOLD CARD OF 'gsmmap.LawS5797CWhole'. -/
def lawS5797CWholeCard : Claim7 := { stood := { row := lawS5797CWholeRow, standIns := [], harness := (true, "e5adf57d755b13133fa8a88978d0b1cc3e826b0047eb3ef58984cb1054af5fbe"), looks := false }, told := true, goes := false }
def LawS5797CWholeToldSaid : Prop := Claim7.holds Ybaf.pinned (.plain (OpenSpec.ofChange lawS5797CWholeSpec)) lawS5797CWholeCard
/-- ITS FALSE NEIGHBOUR. Refute it at one input. -/
def LawS5797CWholeToldWrongFalsely : Prop := Claim7.holds Ybaf.pinned (.plain (OpenSpec.ofChange lawS5797CWholeWrong)) lawS5797CWholeCard
end Rows
end Go.Proofs.YbulkdpamFmt
