/-
  No cell of these rows narrows 'for every input' (looked for: loops, veiled, ifaces, maps, wideKeys, modest, calm, conditions, laid).
  DERIVED. THE GIVEN ROWS OF THIS SEAT. 2 by the template 'for every input the law returns true; each argument reads behind the call as it read before'; 0 by the template 'total and deterministic' (their statements: YbulkdefyTotals.lean).
  GIVEN WITH THE SEED: the statements are not yours to turn. If you find one false, say at which input.
  Laid BY PROGRAM, IN A SANDBOX (cutbox-rows.mjs): the forced cells as the released guide's own fill.sh prints them over the translation b116a1352af63b00… (all of the seat's roots in one cut). By AI agents, Wed Nov 11 2026. No macro, syntax, notation, axiom, sorry.
-/
import Derived.Test.YbulkdefyChecked
import GoSem.Claim
import GoSem.ClaimJoined
import GoSem.ClaimMapViews
import Derived.JoinedTies
import Derived.KernelRfl
namespace Go.Proofs.Ybulkdefy
/- THE CELL 'sum', in the pinned program and in every row, IS THE sha256 OF THE DUMP (.gsa) THAT YbulkdefyProg.lean LOADS. Nothing in Lean hashes anything: it is a label: what it is worth is what the hold of that sum in a sandbox is worth. -/
noncomputable def Yba.pinned : Pinned := { name := "ybulkdefy", sum := "b116a1352af63b00094b1671c1cd6cfe788df1cf1e20595d6e5cf3852c3b9566", checked := Yba.checked }
namespace Rows
def none {H : Type} : Left H := { results := [], args := [] }

/-- 'messages.LawS5276AModel': WHATEVER THE INPUT: true; the input reads as it did. -/
def lawS5276AModelSpec : ChangeSpec := { name := "lawS5276AModel", fn := fun _ => fun
  | [d1, d2, d3] => { results := [.lit (.bool true)], args := [d1, d2, d3] }
  | _ => none }
def lawS5276AModelRow : OpenClaim := { program := "ybulkdefy", sum := "b116a1352af63b00094b1671c1cd6cfe788df1cf1e20595d6e5cf3852c3b9566", func := "example.com/stripbay/stripbay/messages.LawS5276AModel", spec := "lawS5276AModel", unfollowed := true, recurses := true, apart := false }
def LawS5276AModelSaid : Prop := lawS5276AModelRow.holds Yba.pinned (OpenSpec.ofChange lawS5276AModelSpec)

/-- ITS FALSE NEIGHBOUR: 'it returns false'. Refute it at one input. -/
def lawS5276AModelWrong : ChangeSpec := { name := "lawS5276AModel", fn := fun _ => fun
  | [d1, d2, d3] => { results := [.lit (.bool false)], args := [d1, d2, d3] }
  | _ => none }
def LawS5276AModelWrongFalsely : Prop := lawS5276AModelRow.holds Yba.pinned (OpenSpec.ofChange lawS5276AModelWrong)

/-- 'messages.LawS5276ABuilt': WHATEVER THE INPUT: true; the input reads as it did. -/
def lawS5276ABuiltSpec : ChangeSpec := { name := "lawS5276ABuilt", fn := fun _ => fun
  | [d1, d2, d3, d4] => { results := [.lit (.bool true)], args := [d1, d2, d3, d4] }
  | _ => none }
def lawS5276ABuiltRow : OpenClaim := { program := "ybulkdefy", sum := "b116a1352af63b00094b1671c1cd6cfe788df1cf1e20595d6e5cf3852c3b9566", func := "example.com/stripbay/stripbay/messages.LawS5276ABuilt", spec := "lawS5276ABuilt", unfollowed := true, recurses := true, apart := false }
def LawS5276ABuiltSaid : Prop := lawS5276ABuiltRow.holds Yba.pinned (OpenSpec.ofChange lawS5276ABuiltSpec)

/-- ITS FALSE NEIGHBOUR: 'it returns false'. Refute it at one input. -/
def lawS5276ABuiltWrong : ChangeSpec := { name := "lawS5276ABuilt", fn := fun _ => fun
  | [d1, d2, d3, d4] => { results := [.lit (.bool false)], args := [d1, d2, d3, d4] }
  | _ => none }
def LawS5276ABuiltWrongFalsely : Prop := lawS5276ABuiltRow.holds Yba.pinned (OpenSpec.ofChange lawS5276ABuiltWrong)

end Rows
end Go.Proofs.Ybulkdefy
