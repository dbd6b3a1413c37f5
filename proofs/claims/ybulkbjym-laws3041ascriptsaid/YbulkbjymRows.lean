/-
  No cell of these rows narrows 'for every input' (looked for: loops, veiled, ifaces, maps, wideKeys, modest, calm, conditions, laid).
  DERIVED. THE GIVEN ROWS OF THIS SEAT. 3 by the template 'for every input the law returns true; each argument reads behind the call as it read before'; 0 by the template 'total and deterministic' (their statements: YbulkbjymTotals.lean).
  GIVEN WITH THE SEED: the statements are not yours to turn. If you find one false, say at which input.
  Laid BY PROGRAM, IN A SANDBOX (cutbox-rows.mjs): the forced cells as the released guide's own fill.sh prints them over the translation 5fc60f51da859976… (all of the seat's roots in one cut). By AI agents, Wed Nov 11 2026. No macro, syntax, notation, axiom, sorry.
-/
import Derived.Test.YbulkbjymChecked
import GoSem.Claim
import GoSem.ClaimJoined
import GoSem.ClaimMapViews
import Derived.JoinedTies
import Derived.KernelRfl
namespace Go.Proofs.Ybulkbjym
/- THE CELL 'sum', in the pinned program and in every row, IS THE sha256 OF THE DUMP (.gsa) THAT YbulkbjymProg.lean LOADS. Nothing in Lean hashes anything: it is a label: what it is worth is what the hold of that sum in a sandbox is worth. -/
noncomputable def Yba.pinned : Pinned := { name := "ybulkbjym", sum := "5fc60f51da85997686fae2529eee9099ff63d18aa6868ada9380ac575f9c4c15", checked := Yba.checked }
namespace Rows
def none {H : Type} : Left H := { results := [], args := [] }

/-- 'strategos.LawS3041AFresh': WHATEVER THE INPUT: true; the input reads as it did. -/
def lawS3041AFreshSpec : ChangeSpec := { name := "lawS3041AFresh", fn := fun _ => fun
  | [d1, d2] => { results := [.lit (.bool true)], args := [d1, d2] }
  | _ => none }
def lawS3041AFreshRow : OpenClaim := { program := "ybulkbjym", sum := "5fc60f51da85997686fae2529eee9099ff63d18aa6868ada9380ac575f9c4c15", func := "example.com/strategos/strategos.LawS3041AFresh", spec := "lawS3041AFresh", apart := false }
def LawS3041AFreshSaid : Prop := lawS3041AFreshRow.holds Yba.pinned (OpenSpec.ofChange lawS3041AFreshSpec)

/-- ITS FALSE NEIGHBOUR: 'it returns false'. Refute it at one input. -/
def lawS3041AFreshWrong : ChangeSpec := { name := "lawS3041AFresh", fn := fun _ => fun
  | [d1, d2] => { results := [.lit (.bool false)], args := [d1, d2] }
  | _ => none }
def LawS3041AFreshWrongFalsely : Prop := lawS3041AFreshRow.holds Yba.pinned (OpenSpec.ofChange lawS3041AFreshWrong)

/-- 'strategos.LawS3041AScript': WHATEVER THE INPUT: true; the input reads as it did. -/
def lawS3041AScriptSpec : ChangeSpec := { name := "lawS3041AScript", fn := fun _ => fun
  | [d1, d2] => { results := [.lit (.bool true)], args := [d1, d2] }
  | _ => none }
def lawS3041AScriptRow : OpenClaim := { program := "ybulkbjym", sum := "5fc60f51da85997686fae2529eee9099ff63d18aa6868ada9380ac575f9c4c15", func := "example.com/strategos/strategos.LawS3041AScript", spec := "lawS3041AScript", apart := false }
def LawS3041AScriptSaid : Prop := lawS3041AScriptRow.holds Yba.pinned (OpenSpec.ofChange lawS3041AScriptSpec)

/-- ITS FALSE NEIGHBOUR: 'it returns false'. Refute it at one input. -/
def lawS3041AScriptWrong : ChangeSpec := { name := "lawS3041AScript", fn := fun _ => fun
  | [d1, d2] => { results := [.lit (.bool false)], args := [d1, d2] }
  | _ => none }
def LawS3041AScriptWrongFalsely : Prop := lawS3041AScriptRow.holds Yba.pinned (OpenSpec.ofChange lawS3041AScriptWrong)

/-- 'sim.LawS3041CModel': WHATEVER THE INPUT: true; the input reads as it did. -/
def lawS3041CModelSpec : ChangeSpec := { name := "lawS3041CModel", fn := fun _ => fun
  | [d1, d2, d3] => { results := [.lit (.bool true)], args := [d1, d2, d3] }
  | _ => none }
def lawS3041CModelRow : OpenClaim := { program := "ybulkbjym", sum := "5fc60f51da85997686fae2529eee9099ff63d18aa6868ada9380ac575f9c4c15", func := "example.com/strategos/strategos/internal/sim.LawS3041CModel", spec := "lawS3041CModel", apart := false }
def LawS3041CModelSaid : Prop := lawS3041CModelRow.holds Yba.pinned (OpenSpec.ofChange lawS3041CModelSpec)

/-- ITS FALSE NEIGHBOUR: 'it returns false'. Refute it at one input. -/
def lawS3041CModelWrong : ChangeSpec := { name := "lawS3041CModel", fn := fun _ => fun
  | [d1, d2, d3] => { results := [.lit (.bool false)], args := [d1, d2, d3] }
  | _ => none }
def LawS3041CModelWrongFalsely : Prop := lawS3041CModelRow.holds Yba.pinned (OpenSpec.ofChange lawS3041CModelWrong)

end Rows
end Go.Proofs.Ybulkbjym
