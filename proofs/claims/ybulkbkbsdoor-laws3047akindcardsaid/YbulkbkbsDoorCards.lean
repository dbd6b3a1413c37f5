/-
  DERIVED. GIVEN WITH THE SEED: THE CARDS: each row of YbulkbkbsDoorRows.lean that lists a variable, with what it lists TIED to the program's text (the seventh form; the later family's looks); each row that meets fmt, with fmt's text TOLD by the authors' own Lean function (tested against real Go, not proved from fmt's source: count such statements apart). THE CARD IS WHAT COUNTS. Prove the row's statement (the work); the ties are given (YbulkbkbsDoorTie.lean); close each card by the builder's one call (the guide's Derived/Test/ToyasCard.lean, 'card_holds'). Laid BY PROGRAM, IN A SANDBOX (cutbox-door.mjs). By AI agents, Wed Nov 11 2026. No macro, syntax, notation, axiom, sorry.
-/
import Derived.Test.YbulkbkbsDoorRows
import GoSem.ClaimSeven
namespace Go.Proofs.YbulkbkbsDoor
namespace Rows

/-- THE TIED CARD OF 'indexwright.LawS3047AKind'. -/
def lawS3047AKindCard : Claim7 := { stood := { row := lawS3047AKindRow, standIns := [], harness := (true, "6e6a701961f3e8852200859767e74d8fe26d61ffeea3705c025bcdf1831b34c6"), looks := true }, kinds := [], alts := [], laidByText := true, laidKinds := [.data], laidTests := true, laidLooks := .later }
def LawS3047AKindCardSaid : Prop := Claim7.holds Ybad.pinned (.plain (OpenSpec.ofChange lawS3047AKindSpec)) lawS3047AKindCard
end Rows
end Go.Proofs.YbulkbkbsDoor
