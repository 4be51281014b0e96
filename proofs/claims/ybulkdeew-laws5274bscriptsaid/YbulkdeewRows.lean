/-
  No cell of these rows narrows 'for every input' (looked for: loops, veiled, ifaces, maps, wideKeys, modest, calm, conditions, laid).
  DERIVED. THE GIVEN ROWS OF THIS SEAT. 2 by the template 'for every input the law returns true; each argument reads behind the call as it read before'; 0 by the template 'total and deterministic' (their statements: YbulkdeewTotals.lean).
  GIVEN WITH THE SEED: the statements are not yours to turn. If you find one false, say at which input.
  Laid BY PROGRAM, IN A SANDBOX (cutbox-rows.mjs): the forced cells as the released guide's own fill.sh prints them over the translation 41367f5c48819d73… (all of the seat's roots in one cut). By AI agents, Wed Nov 11 2026. No macro, syntax, notation, axiom, sorry.
-/
import Derived.Test.YbulkdeewChecked
import GoSem.Claim
import GoSem.ClaimJoined
import GoSem.ClaimMapViews
import Derived.JoinedTies
import Derived.KernelRfl
namespace Go.Proofs.Ybulkdeew
/- THE CELL 'sum', in the pinned program and in every row, IS THE sha256 OF THE DUMP (.gsa) THAT YbulkdeewProg.lean LOADS. Nothing in Lean hashes anything: it is a label: what it is worth is what the hold of that sum in a sandbox is worth. -/
noncomputable def Yba.pinned : Pinned := { name := "ybulkdeew", sum := "41367f5c48819d730d5b76dce1c3738866259bbab4688caf5ec93881950d3e34", checked := Yba.checked }
namespace Rows
def none {H : Type} : Left H := { results := [], args := [] }

/-- 'protocol.LawS5274BMin': WHATEVER THE INPUT: true; the input reads as it did. -/
def lawS5274BMinSpec : ChangeSpec := { name := "lawS5274BMin", fn := fun _ => fun
  | [d] => { results := [.lit (.bool true)], args := [d] }
  | _ => none }
def lawS5274BMinRow : OpenClaim := { program := "ybulkdeew", sum := "41367f5c48819d730d5b76dce1c3738866259bbab4688caf5ec93881950d3e34", func := "example.com/antecede/antecede/protocol.LawS5274BMin", spec := "lawS5274BMin", apart := false }
def LawS5274BMinSaid : Prop := lawS5274BMinRow.holds Yba.pinned (OpenSpec.ofChange lawS5274BMinSpec)

/-- ITS FALSE NEIGHBOUR: 'it returns false'. Refute it at one input. -/
def lawS5274BMinWrong : ChangeSpec := { name := "lawS5274BMin", fn := fun _ => fun
  | [d] => { results := [.lit (.bool false)], args := [d] }
  | _ => none }
def LawS5274BMinWrongFalsely : Prop := lawS5274BMinRow.holds Yba.pinned (OpenSpec.ofChange lawS5274BMinWrong)

/-- 'protocol.LawS5274BScript': WHATEVER THE INPUT: true; the input reads as it did. -/
def lawS5274BScriptSpec : ChangeSpec := { name := "lawS5274BScript", fn := fun _ => fun
  | [d] => { results := [.lit (.bool true)], args := [d] }
  | _ => none }
def lawS5274BScriptRow : OpenClaim := { program := "ybulkdeew", sum := "41367f5c48819d730d5b76dce1c3738866259bbab4688caf5ec93881950d3e34", func := "example.com/antecede/antecede/protocol.LawS5274BScript", spec := "lawS5274BScript", apart := false }
def LawS5274BScriptSaid : Prop := lawS5274BScriptRow.holds Yba.pinned (OpenSpec.ofChange lawS5274BScriptSpec)

/-- ITS FALSE NEIGHBOUR: 'it returns false'. Refute it at one input. -/
def lawS5274BScriptWrong : ChangeSpec := { name := "lawS5274BScript", fn := fun _ => fun
  | [d] => { results := [.lit (.bool false)], args := [d] }
  | _ => none }
def LawS5274BScriptWrongFalsely : Prop := lawS5274BScriptRow.holds Yba.pinned (OpenSpec.ofChange lawS5274BScriptWrong)

end Rows
end Go.Proofs.Ybulkdeew
