/-
  NARROWER THAN 'FOR EVERY INPUT', by the rows' own cells (each row's printed sentence says how): LawS5800CWhole: ifaces, maps, laid.
  DERIVED. THE GIVEN ROWS OF THIS SEAT. 1 by the template 'for every input the law returns true; each argument reads behind the call as it read before'; 0 by the template 'total and deterministic' (their statements: YbulkdpccFmtTotals.lean).
  GIVEN WITH THE SEED: the statements are not yours to turn. If you find one false, say at which input.
  Laid BY PROGRAM, IN A SANDBOX (cutbox-rows.mjs): the forced cells as the released guide's own fill.sh prints them over the translation 1c644579bfd2465e… (all of the seat's roots in one cut). By AI agents, Wed Nov 11 2026. No macro, syntax, notation, axiom, sorry.
-/
import Derived.Test.YbulkdpccFmtChecked
import GoSem.Claim
import GoSem.ClaimJoined
import GoSem.ClaimMapViews
import Derived.JoinedTies
import Derived.KernelRfl
namespace Go.Proofs.YbulkdpccFmt
/- THE CELL 'sum', in the pinned program and in every row, IS THE sha256 OF THE DUMP (.gsa) THAT YbulkdpccFmtProg.lean LOADS. Nothing in Lean hashes anything: it is a label: what it is worth is what the hold of that sum in a sandbox is worth. -/
noncomputable def Ybaf.pinned : Pinned := { name := "ybulkdpccfmt", sum := "1c644579bfd2465ea65b32f05ad9265f5aed031bb747a7fa3dec2cf98bfb1381", checked := Ybaf.checked }
namespace Rows
def none {H : Type} : Left H := { results := [], args := [] }

/- WHAT THE LISTED PACKAGE-LEVEL VARIABLES READ AS WHEN THE CALL BEGINS. Each datum BY PROGRAM (the guide's laid-datum.mjs) off the statement by which the dump's own 'gosem.cut.vars' lays the variable. In a bare row this is a premise. The card (YbulkdpccFmtCards.lean) ties it to the program's text. -/
def laid_example_com_leafline_leafline_ErrCorrupt {H : Type} : DataW H := .iface "*errors.errorString" (.ptr (.agg [.lit (.string [100, 97, 109, 97, 103, 101, 100, 32, 105, 110, 100, 101, 120])]))
def laid_example_com_leafline_leafline_kindNames {H : Type} : DataW H := .map [(.int .u8 1, .lit (.string [97, 32, 108, 101, 97, 102])), (.int .u8 2, .lit (.string [97, 110, 32, 105, 110, 116, 101, 114, 110, 97, 108])), (.int .u8 3, .lit (.string [97, 32, 102, 114, 101, 101]))]

/-- 'leafline.LawS5800CWhole': WHATEVER THE INPUT: true; the input reads as it did. -/
def lawS5800CWholeSpec : ChangeSpec := { name := "lawS5800CWhole", vars := ["example.com/leafline/leafline.ErrCorrupt", "example.com/leafline/leafline.kindNames"], fn := fun _ => fun
  | [d1, d2, d3, g1, g2] => { results := [.lit (.bool true)], args := [d1, d2, d3], vars := [g1, g2] }
  | _ => none }
def lawS5800CWholeRow : OpenClaim := { program := "ybulkdpccfmt", sum := "1c644579bfd2465ea65b32f05ad9265f5aed031bb747a7fa3dec2cf98bfb1381", func := "example.com/leafline/leafline.LawS5800CWhole", spec := "lawS5800CWhole", stops := ["fmt.Sprintf, its operands' methods called", "fmt.errorf"], inPlace := ["fmt.Sprintf", "fmt.errorf", "internal/reflectlite.TypeOf"], unfollowed := true, recurses := true, named := ["example.com/leafline/leafline.ErrCorrupt", "encoding/binary.LittleEndian", "example.com/leafline/leafline.kindNames"], maps := true, ifaces := true, apart := false, laid := [("example.com/leafline/leafline.ErrCorrupt", laid_example_com_leafline_leafline_ErrCorrupt), ("example.com/leafline/leafline.kindNames", laid_example_com_leafline_leafline_kindNames)] }
/-- NO THEOREM (fmt's text is open here; it may be false): for the released tool's asking of the row's closed facts alone. THE STATEMENT IS 'LawS5800CWholeToldSaid' (YbulkdpccFmtCards.lean). -/
def LawS5800CWholeFormAsk : Prop := lawS5800CWholeRow.holds Ybaf.pinned (OpenSpec.ofChange lawS5800CWholeSpec)

/-- ITS FALSE NEIGHBOUR: 'it returns false'. Refute it at one input. -/
def lawS5800CWholeWrong : ChangeSpec := { name := "lawS5800CWhole", vars := ["example.com/leafline/leafline.ErrCorrupt", "example.com/leafline/leafline.kindNames"], fn := fun _ => fun
  | [d1, d2, d3, g1, g2] => { results := [.lit (.bool false)], args := [d1, d2, d3], vars := [g1, g2] }
  | _ => none }
def LawS5800CWholeWrongFormAsk : Prop := lawS5800CWholeRow.holds Ybaf.pinned (OpenSpec.ofChange lawS5800CWholeWrong)

end Rows
end Go.Proofs.YbulkdpccFmt
