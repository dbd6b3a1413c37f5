/-
  NARROWER THAN 'FOR EVERY INPUT', by the rows' own cells (each row's printed sentence says how): LawS3041BModel: ifaces, laid · LawS3041BBuilt: ifaces, laid · LawS3041BRound: ifaces, laid.
  DERIVED. THE GIVEN ROWS OF THIS SEAT. 3 by the template 'for every input the law returns true; each argument reads behind the call as it read before'; 0 by the template 'total and deterministic' (their statements: YbulkbjymDoorTotals.lean).
  GIVEN WITH THE SEED: the statements are not yours to turn. If you find one false, say at which input.
  Laid BY PROGRAM, IN A SANDBOX (cutbox-rows.mjs): the forced cells as the released guide's own fill.sh prints them over the translation 74fd24d7acc9cce8… (all of the seat's roots in one cut). By AI agents, Wed Nov 11 2026. No macro, syntax, notation, axiom, sorry.
-/
import Derived.Test.YbulkbjymDoorChecked
import GoSem.Claim
import GoSem.ClaimJoined
import GoSem.ClaimMapViews
import Derived.JoinedTies
import Derived.KernelRfl
namespace Go.Proofs.YbulkbjymDoor
/- THE CELL 'sum', in the pinned program and in every row, IS THE sha256 OF THE DUMP (.gsa) THAT YbulkbjymDoorProg.lean LOADS. Nothing in Lean hashes anything: it is a label: what it is worth is what the hold of that sum in a sandbox is worth. -/
noncomputable def Ybad.pinned : Pinned := { name := "ybulkbjymdoor", sum := "74fd24d7acc9cce8b27d20d494bd238c9a117feea25b8969fea98da443f7ab87", checked := Ybad.checked }
namespace Rows
def none {H : Type} : Left H := { results := [], args := [] }

/- WHAT THE LISTED PACKAGE-LEVEL VARIABLES READ AS WHEN THE CALL BEGINS. Each datum BY PROGRAM (the guide's laid-datum.mjs) off the statement by which the dump's own 'gosem.cut.vars' lays the variable. In a bare row this is a premise. The card (YbulkbjymDoorCards.lean) ties it to the program's text. -/
def laid_example_com_strategos_strategos_internal_node_errMalformed {H : Type} : DataW H := .iface "*errors.errorString" (.ptr (.agg [.lit (.string [109, 97, 108, 102, 111, 114, 109, 101, 100, 32, 109, 101, 115, 115, 97, 103, 101])]))

/-- 'node.LawS3041BModel': WHATEVER THE INPUT: true; the input reads as it did. -/
def lawS3041BModelSpec : ChangeSpec := { name := "lawS3041BModel", vars := ["example.com/strategos/strategos/internal/node.errMalformed"], fn := fun _ => fun
  | [d, g1] => { results := [.lit (.bool true)], args := [d], vars := [g1] }
  | _ => none }
def lawS3041BModelRow : OpenClaim := { program := "ybulkbjymdoor", sum := "74fd24d7acc9cce8b27d20d494bd238c9a117feea25b8969fea98da443f7ab87", func := "example.com/strategos/strategos/internal/node.LawS3041BModel", spec := "lawS3041BModel", named := ["example.com/strategos/strategos/internal/node.errMalformed"], ifaces := true, apart := false, laid := [("example.com/strategos/strategos/internal/node.errMalformed", laid_example_com_strategos_strategos_internal_node_errMalformed)] }
def LawS3041BModelSaid : Prop := lawS3041BModelRow.holds Ybad.pinned (OpenSpec.ofChange lawS3041BModelSpec)

/-- ITS FALSE NEIGHBOUR: 'it returns false'. Refute it at one input. -/
def lawS3041BModelWrong : ChangeSpec := { name := "lawS3041BModel", vars := ["example.com/strategos/strategos/internal/node.errMalformed"], fn := fun _ => fun
  | [d, g1] => { results := [.lit (.bool false)], args := [d], vars := [g1] }
  | _ => none }
def LawS3041BModelWrongFalsely : Prop := lawS3041BModelRow.holds Ybad.pinned (OpenSpec.ofChange lawS3041BModelWrong)

/-- 'node.LawS3041BBuilt': WHATEVER THE INPUT: true; the input reads as it did. -/
def lawS3041BBuiltSpec : ChangeSpec := { name := "lawS3041BBuilt", vars := ["example.com/strategos/strategos/internal/node.errMalformed"], fn := fun _ => fun
  | [d1, d2, d3, g1] => { results := [.lit (.bool true)], args := [d1, d2, d3], vars := [g1] }
  | _ => none }
def lawS3041BBuiltRow : OpenClaim := { program := "ybulkbjymdoor", sum := "74fd24d7acc9cce8b27d20d494bd238c9a117feea25b8969fea98da443f7ab87", func := "example.com/strategos/strategos/internal/node.LawS3041BBuilt", spec := "lawS3041BBuilt", named := ["example.com/strategos/strategos/internal/node.errMalformed"], ifaces := true, apart := false, laid := [("example.com/strategos/strategos/internal/node.errMalformed", laid_example_com_strategos_strategos_internal_node_errMalformed)] }
def LawS3041BBuiltSaid : Prop := lawS3041BBuiltRow.holds Ybad.pinned (OpenSpec.ofChange lawS3041BBuiltSpec)

/-- ITS FALSE NEIGHBOUR: 'it returns false'. Refute it at one input. -/
def lawS3041BBuiltWrong : ChangeSpec := { name := "lawS3041BBuilt", vars := ["example.com/strategos/strategos/internal/node.errMalformed"], fn := fun _ => fun
  | [d1, d2, d3, g1] => { results := [.lit (.bool false)], args := [d1, d2, d3], vars := [g1] }
  | _ => none }
def LawS3041BBuiltWrongFalsely : Prop := lawS3041BBuiltRow.holds Ybad.pinned (OpenSpec.ofChange lawS3041BBuiltWrong)

/-- 'node.LawS3041BRound': WHATEVER THE INPUT: true; the input reads as it did. -/
def lawS3041BRoundSpec : ChangeSpec := { name := "lawS3041BRound", vars := ["example.com/strategos/strategos/internal/node.errMalformed"], fn := fun _ => fun
  | [d1, d2, g1] => { results := [.lit (.bool true)], args := [d1, d2], vars := [g1] }
  | _ => none }
def lawS3041BRoundRow : OpenClaim := { program := "ybulkbjymdoor", sum := "74fd24d7acc9cce8b27d20d494bd238c9a117feea25b8969fea98da443f7ab87", func := "example.com/strategos/strategos/internal/node.LawS3041BRound", spec := "lawS3041BRound", named := ["example.com/strategos/strategos/internal/node.errMalformed"], ifaces := true, apart := false, laid := [("example.com/strategos/strategos/internal/node.errMalformed", laid_example_com_strategos_strategos_internal_node_errMalformed)] }
def LawS3041BRoundSaid : Prop := lawS3041BRoundRow.holds Ybad.pinned (OpenSpec.ofChange lawS3041BRoundSpec)

/-- ITS FALSE NEIGHBOUR: 'it returns false'. Refute it at one input. -/
def lawS3041BRoundWrong : ChangeSpec := { name := "lawS3041BRound", vars := ["example.com/strategos/strategos/internal/node.errMalformed"], fn := fun _ => fun
  | [d1, d2, g1] => { results := [.lit (.bool false)], args := [d1, d2], vars := [g1] }
  | _ => none }
def LawS3041BRoundWrongFalsely : Prop := lawS3041BRoundRow.holds Ybad.pinned (OpenSpec.ofChange lawS3041BRoundWrong)

end Rows
end Go.Proofs.YbulkbjymDoor
