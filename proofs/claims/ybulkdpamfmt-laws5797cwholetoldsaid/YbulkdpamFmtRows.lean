/-
  No cell of these rows narrows 'for every input' (looked for: loops, veiled, ifaces, maps, wideKeys, modest, calm, conditions, laid).
  DERIVED. THE GIVEN ROWS OF THIS SEAT. 1 by the template 'for every input the law returns true; each argument reads behind the call as it read before'; 0 by the template 'total and deterministic' (their statements: YbulkdpamFmtTotals.lean).
  GIVEN WITH THE SEED: the statements are not yours to turn. If you find one false, say at which input.
  Laid BY PROGRAM, IN A SANDBOX (cutbox-rows.mjs): the forced cells as the released guide's own fill.sh prints them over the translation de149fe1031fb037… (all of the seat's roots in one cut). By AI agents, Wed Nov 11 2026. No macro, syntax, notation, axiom, sorry.
-/
import Derived.Test.YbulkdpamFmtChecked
import GoSem.Claim
import GoSem.ClaimJoined
import GoSem.ClaimMapViews
import Derived.JoinedTies
import Derived.KernelRfl
namespace Go.Proofs.YbulkdpamFmt
/- THE CELL 'sum', in the pinned program and in every row, IS THE sha256 OF THE DUMP (.gsa) THAT YbulkdpamFmtProg.lean LOADS. Nothing in Lean hashes anything: it is a label: what it is worth is what the hold of that sum in a sandbox is worth. -/
noncomputable def Ybaf.pinned : Pinned := { name := "ybulkdpamfmt", sum := "de149fe1031fb0373a3c1adde7846f15c7608d5a15591db4842e1a3d17cb1414", checked := Ybaf.checked }
namespace Rows
def none {H : Type} : Left H := { results := [], args := [] }

/-- 'gsmmap.LawS5797CWhole': WHATEVER THE INPUT: true; the input reads as it did. -/
def lawS5797CWholeSpec : ChangeSpec := { name := "lawS5797CWhole", fn := fun _ => fun
  | [d1, d2] => { results := [.lit (.bool true)], args := [d1, d2] }
  | _ => none }
def lawS5797CWholeRow : OpenClaim := { program := "ybulkdpamfmt", sum := "de149fe1031fb0373a3c1adde7846f15c7608d5a15591db4842e1a3d17cb1414", func := "example.com/anchorline/anchorline/gsmmap.LawS5797CWhole", spec := "lawS5797CWhole", stops := ["fmt.errorf"], inPlace := ["fmt.errorf"], apart := false }
/-- NO THEOREM (fmt's text is open here; it may be false): for the released tool's asking of the row's closed facts alone. THE STATEMENT IS 'LawS5797CWholeToldSaid' (YbulkdpamFmtCards.lean). -/
def LawS5797CWholeFormAsk : Prop := lawS5797CWholeRow.holds Ybaf.pinned (OpenSpec.ofChange lawS5797CWholeSpec)

/-- ITS FALSE NEIGHBOUR: 'it returns false'. Refute it at one input. -/
def lawS5797CWholeWrong : ChangeSpec := { name := "lawS5797CWhole", fn := fun _ => fun
  | [d1, d2] => { results := [.lit (.bool false)], args := [d1, d2] }
  | _ => none }
def LawS5797CWholeWrongFormAsk : Prop := lawS5797CWholeRow.holds Ybaf.pinned (OpenSpec.ofChange lawS5797CWholeWrong)

end Rows
end Go.Proofs.YbulkdpamFmt
