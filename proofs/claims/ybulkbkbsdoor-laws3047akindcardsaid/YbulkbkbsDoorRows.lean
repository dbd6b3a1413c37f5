/-
  NARROWER THAN 'FOR EVERY INPUT', by the rows' own cells (each row's printed sentence says how): LawS3047AKind: laid.
  DERIVED. THE GIVEN ROWS OF THIS SEAT. 1 by the template 'for every input the law returns true; each argument reads behind the call as it read before'; 0 by the template 'total and deterministic' (their statements: YbulkbkbsDoorTotals.lean).
  GIVEN WITH THE SEED: the statements are not yours to turn. If you find one false, say at which input.
  Laid BY PROGRAM, IN A SANDBOX (cutbox-rows.mjs): the forced cells as the released guide's own fill.sh prints them over the translation 71bb2c1ab2829ace… (all of the seat's roots in one cut). By AI agents, Wed Nov 11 2026. No macro, syntax, notation, axiom, sorry.
-/
import Derived.Test.YbulkbkbsDoorChecked
import GoSem.Claim
import GoSem.ClaimJoined
import GoSem.ClaimMapViews
import Derived.JoinedTies
import Derived.KernelRfl
namespace Go.Proofs.YbulkbkbsDoor
/- THE CELL 'sum', in the pinned program and in every row, IS THE sha256 OF THE DUMP (.gsa) THAT YbulkbkbsDoorProg.lean LOADS. Nothing in Lean hashes anything: it is a label: what it is worth is what the hold of that sum in a sandbox is worth. -/
noncomputable def Ybad.pinned : Pinned := { name := "ybulkbkbsdoor", sum := "71bb2c1ab2829ace8ca37517dc1e0564994a8ba10c4a7e424e46ab1ab406954a", checked := Ybad.checked }
namespace Rows
def none {H : Type} : Left H := { results := [], args := [] }

/- WHAT THE LISTED PACKAGE-LEVEL VARIABLES READ AS WHEN THE CALL BEGINS. Each datum BY PROGRAM (the guide's laid-datum.mjs) off the statement by which the dump's own 'gosem.cut.vars' lays the variable. In a bare row this is a premise. The card (YbulkbkbsDoorCards.lean) ties it to the program's text. -/
def laid_example_com_indexwright_indexwright_dataTypes {H : Type} : DataW H := .agg [.agg [.lit (.string []), .lit (.int .i64 0), .lit (.int .i64 0)], .agg [.lit (.string [83, 84, 82, 73, 78, 71]), .lit (.int .i64 1), .lit (.int .i64 0)], .agg [.lit (.string [73, 78, 84]), .lit (.int .i64 2), .lit (.int .i64 32)], .agg [.lit (.string [76, 79, 78, 71]), .lit (.int .i64 2), .lit (.int .i64 64)], .agg [.lit (.string [70, 76, 79, 65, 84]), .lit (.int .i64 3), .lit (.int .i64 32)], .agg [.lit (.string [68, 79, 85, 66, 76, 69]), .lit (.int .i64 3), .lit (.int .i64 64)]]

/-- 'indexwright.LawS3047AKind': WHATEVER THE INPUT: true; the input reads as it did. -/
def lawS3047AKindSpec : ChangeSpec := { name := "lawS3047AKind", vars := ["example.com/indexwright/indexwright.dataTypes"], fn := fun _ => fun
  | [d, g1] => { results := [.lit (.bool true)], args := [d], vars := [g1] }
  | _ => none }
def lawS3047AKindRow : OpenClaim := { program := "ybulkbkbsdoor", sum := "71bb2c1ab2829ace8ca37517dc1e0564994a8ba10c4a7e424e46ab1ab406954a", func := "example.com/indexwright/indexwright.LawS3047AKind", spec := "lawS3047AKind", named := ["example.com/indexwright/indexwright.dataTypes"], apart := false, laid := [("example.com/indexwright/indexwright.dataTypes", laid_example_com_indexwright_indexwright_dataTypes)] }
def LawS3047AKindSaid : Prop := lawS3047AKindRow.holds Ybad.pinned (OpenSpec.ofChange lawS3047AKindSpec)

/-- ITS FALSE NEIGHBOUR: 'it returns false'. Refute it at one input. -/
def lawS3047AKindWrong : ChangeSpec := { name := "lawS3047AKind", vars := ["example.com/indexwright/indexwright.dataTypes"], fn := fun _ => fun
  | [d, g1] => { results := [.lit (.bool false)], args := [d], vars := [g1] }
  | _ => none }
def LawS3047AKindWrongFalsely : Prop := lawS3047AKindRow.holds Ybad.pinned (OpenSpec.ofChange lawS3047AKindWrong)

end Rows
end Go.Proofs.YbulkbkbsDoor
