/-
  No cell of these rows narrows 'for every input' (looked for: loops, veiled, ifaces, maps, wideKeys, modest, calm, conditions, laid).
  DERIVED. THE GIVEN ROWS OF THIS SEAT. 1 by the template 'for every input the law returns true; each argument reads behind the call as it read before'; 0 by the template 'total and deterministic' (their statements: YbulkdpccTotals.lean).
  GIVEN WITH THE SEED: the statements are not yours to turn. If you find one false, say at which input.
  Laid BY PROGRAM, IN A SANDBOX (cutbox-rows.mjs): the forced cells as the released guide's own fill.sh prints them over the translation 53518457df1b6782… (all of the seat's roots in one cut). By AI agents, Wed Nov 11 2026. No macro, syntax, notation, axiom, sorry.
-/
import Derived.Test.YbulkdpccChecked
import GoSem.Claim
import GoSem.ClaimJoined
import GoSem.ClaimMapViews
import Derived.JoinedTies
import Derived.KernelRfl
namespace Go.Proofs.Ybulkdpcc
/- THE CELL 'sum', in the pinned program and in every row, IS THE sha256 OF THE DUMP (.gsa) THAT YbulkdpccProg.lean LOADS. Nothing in Lean hashes anything: it is a label: what it is worth is what the hold of that sum in a sandbox is worth. -/
noncomputable def Yba.pinned : Pinned := { name := "ybulkdpcc", sum := "53518457df1b67826939856c86e203dbe6c5775703811d38a26d0bd6cb7ed370", checked := Yba.checked }
namespace Rows
def none {H : Type} : Left H := { results := [], args := [] }

/-- 'leafline.LawS5800BWhole': WHATEVER THE INPUT: true; the input reads as it did. -/
def lawS5800BWholeSpec : ChangeSpec := { name := "lawS5800BWhole", fn := fun _ => fun
  | [d1, d2, d3, d4, d5] => { results := [.lit (.bool true)], args := [d1, d2, d3, d4, d5] }
  | _ => none }
def lawS5800BWholeRow : OpenClaim := { program := "ybulkdpcc", sum := "53518457df1b67826939856c86e203dbe6c5775703811d38a26d0bd6cb7ed370", func := "example.com/leafline/leafline.LawS5800BWhole", spec := "lawS5800BWhole", apart := false }
def LawS5800BWholeSaid : Prop := lawS5800BWholeRow.holds Yba.pinned (OpenSpec.ofChange lawS5800BWholeSpec)

/-- ITS FALSE NEIGHBOUR: 'it returns false'. Refute it at one input. -/
def lawS5800BWholeWrong : ChangeSpec := { name := "lawS5800BWhole", fn := fun _ => fun
  | [d1, d2, d3, d4, d5] => { results := [.lit (.bool false)], args := [d1, d2, d3, d4, d5] }
  | _ => none }
def LawS5800BWholeWrongFalsely : Prop := lawS5800BWholeRow.holds Yba.pinned (OpenSpec.ofChange lawS5800BWholeWrong)

end Rows
end Go.Proofs.Ybulkdpcc
