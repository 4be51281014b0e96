/-
  No cell of these rows narrows 'for every input' (looked for: loops, veiled, ifaces, maps, wideKeys, modest, calm, conditions, laid).
  DERIVED. THE GIVEN ROWS OF THIS SEAT. 1 by the template 'for every input the law returns true; each argument reads behind the call as it read before'; 0 by the template 'total and deterministic' (their statements: YbulkdeicTotals.lean).
  GIVEN WITH THE SEED: the statements are not yours to turn. If you find one false, say at which input.
  Laid BY PROGRAM, IN A SANDBOX (cutbox-rows.mjs): the forced cells as the released guide's own fill.sh prints them over the translation ccb59df5832bbea1… (all of the seat's roots in one cut). By AI agents, Wed Nov 11 2026. No macro, syntax, notation, axiom, sorry.
-/
import Derived.Test.YbulkdeicChecked
import GoSem.Claim
import GoSem.ClaimJoined
import GoSem.ClaimMapViews
import Derived.JoinedTies
import Derived.KernelRfl
namespace Go.Proofs.Ybulkdeic
/- THE CELL 'sum', in the pinned program and in every row, IS THE sha256 OF THE DUMP (.gsa) THAT YbulkdeicProg.lean LOADS. Nothing in Lean hashes anything: it is a label: what it is worth is what the hold of that sum in a sandbox is worth. -/
noncomputable def Yba.pinned : Pinned := { name := "ybulkdeic", sum := "ccb59df5832bbea1223eb45117a35f29bf09f5fbd214c55aa3a3a6fa46e14995", checked := Yba.checked }
namespace Rows
def none {H : Type} : Left H := { results := [], args := [] }

/-- 'content.LawS5280CGrow': WHATEVER THE INPUT: true; the input reads as it did. -/
def lawS5280CGrowSpec : ChangeSpec := { name := "lawS5280CGrow", fn := fun _ => fun
  | [d1, d2, d3, d4, d5] => { results := [.lit (.bool true)], args := [d1, d2, d3, d4, d5] }
  | _ => none }
def lawS5280CGrowRow : OpenClaim := { program := "ybulkdeic", sum := "ccb59df5832bbea1223eb45117a35f29bf09f5fbd214c55aa3a3a6fa46e14995", func := "example.com/wanderlay/wanderlay/pkg/content.LawS5280CGrow", spec := "lawS5280CGrow", apart := false }
def LawS5280CGrowSaid : Prop := lawS5280CGrowRow.holds Yba.pinned (OpenSpec.ofChange lawS5280CGrowSpec)

/-- ITS FALSE NEIGHBOUR: 'it returns false'. Refute it at one input. -/
def lawS5280CGrowWrong : ChangeSpec := { name := "lawS5280CGrow", fn := fun _ => fun
  | [d1, d2, d3, d4, d5] => { results := [.lit (.bool false)], args := [d1, d2, d3, d4, d5] }
  | _ => none }
def LawS5280CGrowWrongFalsely : Prop := lawS5280CGrowRow.holds Yba.pinned (OpenSpec.ofChange lawS5280CGrowWrong)

end Rows
end Go.Proofs.Ybulkdeic
