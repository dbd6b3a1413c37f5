/-
  DERIVED. GIVEN WITH THE SEED: THE CARDS: each row of YbulkbjymDoorRows.lean that lists a variable, with what it lists TIED to the program's text (the seventh form; the later family's looks); each row that meets fmt, with fmt's text TOLD by the authors' own Lean function (tested against real Go, not proved from fmt's source: count such statements apart). THE CARD IS WHAT COUNTS. Prove the row's statement (the work); the ties are given (YbulkbjymDoorTie.lean); close each card by the builder's one call (the guide's Derived/Test/ToyasCard.lean, 'card_holds'). Laid BY PROGRAM, IN A SANDBOX (cutbox-door.mjs). By AI agents, Wed Nov 11 2026. No macro, syntax, notation, axiom, sorry.
-/
import Derived.Test.YbulkbjymDoorRows
import GoSem.ClaimSeven
namespace Go.Proofs.YbulkbjymDoor
namespace Rows

/-- THE TIED CARD OF 'node.LawS3041BModel'. -/
def lawS3041BModelCard : Claim7 := { stood := { row := lawS3041BModelRow, standIns := [], harness := (true, "7f7617df59de713c1a573d4b36a1e9fbc1994b3dff9fda18b355dd797cb3b834"), looks := true }, kinds := [], alts := [], laidByText := true, laidKinds := [.sentinel], laidTests := true, laidLooks := .later }
def LawS3041BModelCardSaid : Prop := Claim7.holds Ybad.pinned (.plain (OpenSpec.ofChange lawS3041BModelSpec)) lawS3041BModelCard

/-- THE TIED CARD OF 'node.LawS3041BBuilt'. -/
def lawS3041BBuiltCard : Claim7 := { stood := { row := lawS3041BBuiltRow, standIns := [], harness := (true, "7f7617df59de713c1a573d4b36a1e9fbc1994b3dff9fda18b355dd797cb3b834"), looks := true }, kinds := [], alts := [], laidByText := true, laidKinds := [.sentinel], laidTests := true, laidLooks := .later }
def LawS3041BBuiltCardSaid : Prop := Claim7.holds Ybad.pinned (.plain (OpenSpec.ofChange lawS3041BBuiltSpec)) lawS3041BBuiltCard

/-- THE TIED CARD OF 'node.LawS3041BRound'. -/
def lawS3041BRoundCard : Claim7 := { stood := { row := lawS3041BRoundRow, standIns := [], harness := (true, "7f7617df59de713c1a573d4b36a1e9fbc1994b3dff9fda18b355dd797cb3b834"), looks := true }, kinds := [], alts := [], laidByText := true, laidKinds := [.sentinel], laidTests := true, laidLooks := .later }
def LawS3041BRoundCardSaid : Prop := Claim7.holds Ybad.pinned (.plain (OpenSpec.ofChange lawS3041BRoundSpec)) lawS3041BRoundCard
end Rows
end Go.Proofs.YbulkbjymDoor
