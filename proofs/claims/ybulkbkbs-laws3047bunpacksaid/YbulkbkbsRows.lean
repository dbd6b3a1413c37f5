/-
  No cell of these rows narrows 'for every input' (looked for: loops, veiled, ifaces, maps, wideKeys, modest, calm, conditions, laid).
  DERIVED. THE GIVEN ROWS OF THIS SEAT. 2 by the template 'for every input the law returns true; each argument reads behind the call as it read before'; 0 by the template 'total and deterministic' (their statements: YbulkbkbsTotals.lean).
  GIVEN WITH THE SEED: the statements are not yours to turn. If you find one false, say at which input.
  Laid BY PROGRAM, IN A SANDBOX (cutbox-rows.mjs): the forced cells as the released guide's own fill.sh prints them over the translation 6f7ded1dcf70c0d1… (all of the seat's roots in one cut). By AI agents, Wed Nov 11 2026. No macro, syntax, notation, axiom, sorry.
-/
import Derived.Test.YbulkbkbsChecked
import GoSem.Claim
import GoSem.ClaimJoined
import GoSem.ClaimMapViews
import Derived.JoinedTies
import Derived.KernelRfl
namespace Go.Proofs.Ybulkbkbs
/- THE CELL 'sum', in the pinned program and in every row, IS THE sha256 OF THE DUMP (.gsa) THAT YbulkbkbsProg.lean LOADS. Nothing in Lean hashes anything: it is a label: what it is worth is what the hold of that sum in a sandbox is worth. -/
noncomputable def Yba.pinned : Pinned := { name := "ybulkbkbs", sum := "6f7ded1dcf70c0d12a9d14ff756536af4b35fd65f130604d36008dcde0ced9af", checked := Yba.checked }
namespace Rows
def none {H : Type} : Left H := { results := [], args := [] }

/-- 'bitpack.LawS3047BGet': WHATEVER THE INPUT: true; the input reads as it did. -/
def lawS3047BGetSpec : ChangeSpec := { name := "lawS3047BGet", fn := fun _ => fun
  | [d1, d2, d3] => { results := [.lit (.bool true)], args := [d1, d2, d3] }
  | _ => none }
def lawS3047BGetRow : OpenClaim := { program := "ybulkbkbs", sum := "6f7ded1dcf70c0d12a9d14ff756536af4b35fd65f130604d36008dcde0ced9af", func := "example.com/indexwright/indexwright/internal/bitpack.LawS3047BGet", spec := "lawS3047BGet", named := ["encoding/binary.LittleEndian"], apart := false }
def LawS3047BGetSaid : Prop := lawS3047BGetRow.holds Yba.pinned (OpenSpec.ofChange lawS3047BGetSpec)

/-- ITS FALSE NEIGHBOUR: 'it returns false'. Refute it at one input. -/
def lawS3047BGetWrong : ChangeSpec := { name := "lawS3047BGet", fn := fun _ => fun
  | [d1, d2, d3] => { results := [.lit (.bool false)], args := [d1, d2, d3] }
  | _ => none }
def LawS3047BGetWrongFalsely : Prop := lawS3047BGetRow.holds Yba.pinned (OpenSpec.ofChange lawS3047BGetWrong)

/-- 'bitpack.LawS3047BUnpack': WHATEVER THE INPUT: true; the input reads as it did. -/
def lawS3047BUnpackSpec : ChangeSpec := { name := "lawS3047BUnpack", fn := fun _ => fun
  | [d1, d2, d3, d4] => { results := [.lit (.bool true)], args := [d1, d2, d3, d4] }
  | _ => none }
def lawS3047BUnpackRow : OpenClaim := { program := "ybulkbkbs", sum := "6f7ded1dcf70c0d12a9d14ff756536af4b35fd65f130604d36008dcde0ced9af", func := "example.com/indexwright/indexwright/internal/bitpack.LawS3047BUnpack", spec := "lawS3047BUnpack", named := ["encoding/binary.LittleEndian"], apart := false }
def LawS3047BUnpackSaid : Prop := lawS3047BUnpackRow.holds Yba.pinned (OpenSpec.ofChange lawS3047BUnpackSpec)

/-- ITS FALSE NEIGHBOUR: 'it returns false'. Refute it at one input. -/
def lawS3047BUnpackWrong : ChangeSpec := { name := "lawS3047BUnpack", fn := fun _ => fun
  | [d1, d2, d3, d4] => { results := [.lit (.bool false)], args := [d1, d2, d3, d4] }
  | _ => none }
def LawS3047BUnpackWrongFalsely : Prop := lawS3047BUnpackRow.holds Yba.pinned (OpenSpec.ofChange lawS3047BUnpackWrong)

end Rows
end Go.Proofs.Ybulkbkbs
