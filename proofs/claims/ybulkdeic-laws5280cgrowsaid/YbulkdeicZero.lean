/-
  OWN WORK. The zero mapReader: 6157 cells, never written out.
-/
import Derived.Test.YbulkdeicRows
import Derived.WalkKit
namespace Go.Proofs.Ybulkdeic
open Go.RowKit

def aggOf : Option (Option Value) → Option Nat
  | some (some (.agg cs)) => some cs.size
  | _ => none

theorem zeroB : aggOf ((Yba.prog.info? 35).map (·.zero)) = some 6157 := by kernel_rfl

theorem zero35 : ∃ z : Array Value, z.size = 6157 ∧ ∀ w, (zeroValue 35).run Yba.prog w = .ok (.agg z) w := by
  have h := zeroB
  cases hi : Yba.prog.info? 35 with
  | none => rw [hi] at h; cases h
  | some i =>
    rw [hi] at h
    have h2 : aggOf (some i.zero) = some 6157 := h
    match hz : i.zero with
    | none => rw [hz] at h2; cases h2
    | some v =>
      rw [hz] at h2
      cases v with
      | agg cs =>
        have h3 : some cs.size = some 6157 := h2
        refine ⟨cs, Option.some.inj h3, fun w => ?_⟩
        simp [zeroValue, typeInfo, hi, hz]
      | _ => cases h2
end Go.Proofs.Ybulkdeic
