/-
  No cell of these rows narrows 'for every input' (looked for: loops, veiled, ifaces, maps, wideKeys, modest, calm, conditions, laid).
  DERIVED. THE GIVEN ROWS OF THIS SEAT. 1 by the template 'for every input the law returns true; each argument reads behind the call as it read before'; 0 by the template 'total and deterministic' (their statements: YbulkdpboTotals.lean).
  GIVEN WITH THE SEED: the statements are not yours to turn. If you find one false, say at which input.
  Laid BY PROGRAM, IN A SANDBOX (cutbox-rows.mjs): the forced cells as the released guide's own fill.sh prints them over the translation 12bd1a9cebbf8781… (all of the seat's roots in one cut). By AI agents, Wed Nov 11 2026. No macro, syntax, notation, axiom, sorry.
-/
import Derived.Test.YbulkdpboChecked
import GoSem.Claim
import GoSem.ClaimJoined
import GoSem.ClaimMapViews
import Derived.JoinedTies
import Derived.KernelRfl
namespace Go.Proofs.Ybulkdpbo
/- THE CELL 'sum', in the pinned program and in every row, IS THE sha256 OF THE DUMP (.gsa) THAT YbulkdpboProg.lean LOADS. Nothing in Lean hashes anything: it is a label: what it is worth is what the hold of that sum in a sandbox is worth. -/
noncomputable def Yba.pinned : Pinned := { name := "ybulkdpbo", sum := "12bd1a9cebbf8781130fe37bc16dc6515c64fc5b786bf960e4196e8db5660125", checked := Yba.checked }
namespace Rows
def none {H : Type} : Left H := { results := [], args := [] }

/-- 'reviewmd.LawS5799AWhole': WHATEVER THE INPUT: true; the input reads as it did. -/
def lawS5799AWholeSpec : ChangeSpec := { name := "lawS5799AWhole", fn := fun _ => fun
  | [d1, d2] => { results := [.lit (.bool true)], args := [d1, d2] }
  | _ => none }
def lawS5799AWholeRow : OpenClaim := { program := "ybulkdpbo", sum := "12bd1a9cebbf8781130fe37bc16dc6515c64fc5b786bf960e4196e8db5660125", func := "example.com/delta-verdict/delta-verdict/pkg/reviewmd.LawS5799AWhole", spec := "lawS5799AWhole", apart := false }
def LawS5799AWholeSaid : Prop := lawS5799AWholeRow.holds Yba.pinned (OpenSpec.ofChange lawS5799AWholeSpec)

/-- ITS FALSE NEIGHBOUR: 'it returns false'. Refute it at one input. -/
def lawS5799AWholeWrong : ChangeSpec := { name := "lawS5799AWhole", fn := fun _ => fun
  | [d1, d2] => { results := [.lit (.bool false)], args := [d1, d2] }
  | _ => none }
def LawS5799AWholeWrongFalsely : Prop := lawS5799AWholeRow.holds Yba.pinned (OpenSpec.ofChange lawS5799AWholeWrong)

end Rows
end Go.Proofs.Ybulkdpbo
