/-
  No cell of these rows narrows 'for every input' (looked for: loops, veiled, ifaces, maps, wideKeys, modest, calm, conditions, laid).
  DERIVED. THE GIVEN ROWS OF THIS SEAT. 1 by the template 'for every input the law returns true; each argument reads behind the call as it read before'; 0 by the template 'total and deterministic' (their statements: YbulkdpbaRTotals.lean).
  GIVEN WITH THE SEED: the statements are not yours to turn. If you find one false, say at which input.
  Laid BY PROGRAM, IN A SANDBOX (cutbox-rows.mjs): the forced cells as the released guide's own fill.sh prints them over the translation 96bb35184db86ee1… (all of the seat's roots in one cut). By AI agents, Wed Nov 11 2026. No macro, syntax, notation, axiom, sorry.
-/
import Derived.Test.YbulkdpbaRChecked
import GoSem.Claim
import GoSem.ClaimJoined
import GoSem.ClaimMapViews
import Derived.JoinedTies
import Derived.KernelRfl
namespace Go.Proofs.YbulkdpbaR
/- THE CELL 'sum', in the pinned program and in every row, IS THE sha256 OF THE DUMP (.gsa) THAT YbulkdpbaRProg.lean LOADS. Nothing in Lean hashes anything: it is a label: what it is worth is what the hold of that sum in a sandbox is worth. -/
noncomputable def Yba.pinned : Pinned := { name := "ybulkdpbar", sum := "96bb35184db86ee1f8cd7c3b01f49243ee7620ca5d2725070976e05dfc9defb5", checked := Yba.checked }
namespace Rows
def none {H : Type} : Left H := { results := [], args := [] }

/-- 'yang.LawS5798BWhole': WHATEVER THE INPUT: true; the input reads as it did. -/
def lawS5798BWholeSpec : ChangeSpec := { name := "lawS5798BWhole", fn := fun _ => fun
  | [d1, d2, d3] => { results := [.lit (.bool true)], args := [d1, d2, d3] }
  | _ => none }
def lawS5798BWholeRow : OpenClaim := { program := "ybulkdpbar", sum := "96bb35184db86ee1f8cd7c3b01f49243ee7620ca5d2725070976e05dfc9defb5", func := "example.com/yangport/yangport/internal/yang.LawS5798BWhole", spec := "lawS5798BWhole", recurses := true, apart := false }
def LawS5798BWholeSaid : Prop := lawS5798BWholeRow.holds Yba.pinned (OpenSpec.ofChange lawS5798BWholeSpec)

/-- ITS FALSE NEIGHBOUR: 'it returns false'. Refute it at one input. -/
def lawS5798BWholeWrong : ChangeSpec := { name := "lawS5798BWhole", fn := fun _ => fun
  | [d1, d2, d3] => { results := [.lit (.bool false)], args := [d1, d2, d3] }
  | _ => none }
def LawS5798BWholeWrongFalsely : Prop := lawS5798BWholeRow.holds Yba.pinned (OpenSpec.ofChange lawS5798BWholeWrong)

end Rows
end Go.Proofs.YbulkdpbaR
