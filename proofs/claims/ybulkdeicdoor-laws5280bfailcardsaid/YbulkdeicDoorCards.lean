/-
  DERIVED. GIVEN WITH THE SEED: THE CARDS: each row of YbulkdeicDoorRows.lean that lists a variable, with what it lists TIED to the program's text (the seventh form; the later family's looks); each row that meets fmt, with fmt's text TOLD by the authors' own Lean function (tested against real Go, not proved from fmt's source: count such statements apart). THE CARD IS WHAT COUNTS. Prove the row's statement (the work); the ties are given (YbulkdeicDoorTie.lean); close each card by the builder's one call (the guide's Derived/Test/ToyasCard.lean, 'card_holds'). Laid BY PROGRAM, IN A SANDBOX (cutbox-door.mjs). By AI agents, Wed Nov 11 2026. No macro, syntax, notation, axiom, sorry.
-/
import Derived.Test.YbulkdeicDoorRows
import GoSem.ClaimSeven
namespace Go.Proofs.YbulkdeicDoor
namespace Rows

/-- THE TIED CARD OF 'content.LawS5280BLines'. -/
def lawS5280BLinesCard : Claim7 := { stood := { row := lawS5280BLinesRow, standIns := [], harness := (true, "34a223caa2d6eaf567bee7de9a990476a8a817f4be8fcca07c20c0d809468e50"), looks := true }, kinds := [], alts := [], laidByText := true, laidKinds := [.data, .data, .data, .sentinel], laidTests := true, laidLooks := .later }
def LawS5280BLinesCardSaid : Prop := Claim7.holds Ybad.pinned (.plain (OpenSpec.ofChange lawS5280BLinesSpec)) lawS5280BLinesCard

/-- THE TIED CARD OF 'content.LawS5280BFail'. -/
def lawS5280BFailCard : Claim7 := { stood := { row := lawS5280BFailRow, standIns := [], harness := (true, "34a223caa2d6eaf567bee7de9a990476a8a817f4be8fcca07c20c0d809468e50"), looks := true }, kinds := [], alts := [], laidByText := true, laidKinds := [.data, .data, .data, .sentinel], laidTests := true, laidLooks := .later }
def LawS5280BFailCardSaid : Prop := Claim7.holds Ybad.pinned (.plain (OpenSpec.ofChange lawS5280BFailSpec)) lawS5280BFailCard
end Rows
end Go.Proofs.YbulkdeicDoor
