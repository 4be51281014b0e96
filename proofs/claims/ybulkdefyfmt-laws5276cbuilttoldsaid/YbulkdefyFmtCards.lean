/-
  DERIVED. GIVEN WITH THE SEED: THE CARDS: each row of YbulkdefyFmtRows.lean that lists a variable, with what it lists TIED to the program's text (the seventh form; the later family's looks); each row that meets fmt, with fmt's text TOLD by the authors' own Lean function (tested against real Go, not proved from fmt's source: count such statements apart). THE CARD IS WHAT COUNTS. Prove the row's statement (the work); the ties are given (YbulkdefyFmtTie.lean); close each card by the builder's one call (the guide's Derived/Test/ToyasCard.lean, 'card_holds'). Laid BY PROGRAM, IN A SANDBOX (cutbox-door.mjs). By AI agents, Wed Nov 11 2026. No macro, syntax, notation, axiom, sorry.
-/
import Derived.Test.YbulkdefyFmtRows
import GoSem.ClaimSeven
namespace Go.Proofs.YbulkdefyFmt
namespace Rows

/-- THE TOLD AND TIED CARD OF 'messages.LawS5276CBuilt'. -/
def lawS5276CBuiltCard : Claim7 := { stood := { row := lawS5276CBuiltRow, standIns := [], harness := (true, "86b21f0dc35b4c90c950d864c317663481b169df4bdb0042204287c8f2a38a13"), looks := false }, told := true, laidByText := true, laidKinds := [.listed, .data], laidTests := true, laidLooks := .later, goes := false }
def LawS5276CBuiltToldSaid : Prop := Claim7.holds Ybaf.pinned (.plain (OpenSpec.ofChange lawS5276CBuiltSpec)) lawS5276CBuiltCard
/-- ITS FALSE NEIGHBOUR. Refute it at one input. -/
def LawS5276CBuiltToldWrongFalsely : Prop := Claim7.holds Ybaf.pinned (.plain (OpenSpec.ofChange lawS5276CBuiltWrong)) lawS5276CBuiltCard

/-- THE TOLD AND TIED CARD OF 'messages.LawS5276CAny'. -/
def lawS5276CAnyCard : Claim7 := { stood := { row := lawS5276CAnyRow, standIns := [], harness := (true, "86b21f0dc35b4c90c950d864c317663481b169df4bdb0042204287c8f2a38a13"), looks := false }, told := true, laidByText := true, laidKinds := [.listed, .data], laidTests := true, laidLooks := .later, goes := false }
def LawS5276CAnyToldSaid : Prop := Claim7.holds Ybaf.pinned (.plain (OpenSpec.ofChange lawS5276CAnySpec)) lawS5276CAnyCard
/-- ITS FALSE NEIGHBOUR. Refute it at one input. -/
def LawS5276CAnyToldWrongFalsely : Prop := Claim7.holds Ybaf.pinned (.plain (OpenSpec.ofChange lawS5276CAnyWrong)) lawS5276CAnyCard
end Rows
end Go.Proofs.YbulkdefyFmt
