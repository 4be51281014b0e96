/-
  OWN WORK. What comes in, opened; a start in which the listed variables hold what they are listed with.
-/
import Derived.Test.YbulkdeicDoorLaw
import Derived.Test.YbulkdeicDoorRows
import Derived.ProofKit
import Derived.OpenShut
import Derived.ChangeOld
import Derived.ChangeSame
import Derived.ChangeVars
import Derived.JoinedOf
import Derived.RowKit
import Derived.Deep.SlicePairs
import Derived.SliceStrings
import Derived.Lib.LaidIn
import Derived.Lib.LaidTab
import Derived.LaidLaws
import Derived.LaidHandle
import Derived.Stop.LaidErr
import Derived.Stop.Joined
namespace Go.Proofs.YbulkdeicDoor
open Go.ChangeShapes Go.WideShapes Go.ChangeAt Go.RowKit

theorem own : ownKnob Ybad.prog.godebug = none := by kernel_rfl
theorem laidOut : laidOutB Ybad.prog = true := by kernel_rfl

def litVal : DataW Unit → Value
  | .lit (.int k z) => .int k z
  | _ => .int .u8 0

def tabCells : DataW Unit → Array Value
  | .agg xs => (xs.map litVal).toArray
  | _ => #[]

/-- The four listed variables' cells laid; N: the block of the error's text. -/
def layIn (N : Nat) (w0 : World) : World :=
  let put (h : Array Obj) (g : Nat) (cs : Array Value) : Array Obj := h.modify g fun
    | .cells _ t frozen => .cells cs t frozen
    | o => o
  { w0 with heap := put (put (put (put w0.heap 0 #[.iface 77 (.pointer (some ⟨N, 0, none⟩))]) 1 (tabCells Rows.laid_internal_strconv_uint64pow10)) 2 (tabCells Rows.laid_math_bits_deBruijn32tab)) 3 (tabCells Rows.laid_math_bits_deBruijn64tab) }

/-- The new block: the error's text. -/
def errIn : Input := ⟨#[.cells #[.string ⟨#[115, 104, 111, 114, 116, 32, 119, 114, 105, 116, 101]⟩] 79], #[], []⟩

set_option maxRecDepth 1000000 in
/-- A start in which the four listed variables hold what they are listed with. -/
theorem laid_met (os : Os) (args : Array Value) : laidMet Ybad.prog Rows.lawS5280BLinesRow.laid ((layIn (World.settled Ybad.prog os).heap.size (World.holding Ybad.prog os errIn)).forCall (fun _ _ => 0) ⟨#[], args, []⟩).memory :=
  (LaidIn.of_run [2, 3, 1, 0, (World.settled Ybad.prog default).heap.size] 10 (by kernel_rfl) (by kernel_rfl) (by kernel_rfl) (by kernel_rfl)).met

theorem tabEq : (Rows.laid_internal_strconv_uint64pow10 : DataW Unit) = Lib.tabData .u64 Lib.pow10Tab := by kernel_rfl

theorem tab_of_laid {W : World} (h : laidMet Ybad.prog Rows.lawS5280BLinesRow.laid W) : ∀ W', Below W.heap.size W W' → Lib.TabIs Ybad.prog W' powName .u64 Lib.pow10Tab := by
  have h3 := laidMet.tail (laidMet.tail h)
  rw [tabEq] at h3
  exact Lib.tabBelow_of_tabIs (Lib.tabIs_of_head (g := 1) (t := 105) (e := 36) (n := 20) (by kernel_rfl) (by kernel_rfl) Ybad.underlying105 Ybad.underlying36 (by kernel_rfl) (by kernel_rfl) h3)

section
variable {H : Type} {enc : TypeId × Value → H} {W : World} {d : DataW H} {ps : List MemPlace}

theorem open_docs {ao : Option Addr} {len cap : Nat} (h : DataW.Trod enc Ybad.prog W 0 (fun _ => true) true 22 (.slice ao len cap) d ps) :
    ∃ (ds : List ByteArray) (b off : Nat), ds.length = len ∧ (0 < ds.length → ao = some ⟨b, off, none⟩) ∧ ∀ j s, ds[j]? = some s → W.cell? ⟨b, off + j, none⟩ = some (.string s) := by
  obtain ⟨fuel, hf⟩ := h
  rcases open_strings Ybad.underlying22 Ybad.underlying9 (by kernel_rfl) hf with ⟨hcs, _⟩ | ⟨x, l, c, ss, hcs, _, hl, hm, hss, _, hcell, _⟩
  · simp [Value.cells] at hcs
    obtain ⟨rfl, rfl, rfl⟩ := hcs
    exact ⟨[], 0, 0, rfl, fun h => by simp at h, fun j s h => by simp at h⟩
  · simp [Value.cells] at hcs
    obtain ⟨rfl, rfl, rfl⟩ := hcs
    have hss' : ss.length = cap := by simpa using hss
    obtain ⟨b, off, spot⟩ := x
    have hl2 : (ss.take len).length = len := by rw [List.length_take]; omega
    refine ⟨ss.take len, b, off, hl2, fun h0 => ?_, fun j s hj => ?_⟩
    · rw [hl2] at h0
      have hspot : spot = none := by simpa [Addr.add] using World.cell?_spot (hcell 0 (by omega))
      rw [hspot]
    · have hjl := (List.getElem?_eq_some_iff.1 hj).1
      rw [hl2] at hjl
      have hspot : spot = none := by simpa [Addr.add] using World.cell?_spot (hcell 0 (by omega))
      subst hspot
      have h1 := hcell j (by omega)
      rw [Addr.add_lit] at h1
      rw [h1]
      rw [List.getElem?_take, if_pos hjl] at hj
      simp [List.getD_eq_getElem?_getD, hj]

def natOf : Value → Nat
  | .int _ z => z.toNat
  | _ => 0
def intVal : Value → Int
  | .int _ z => z
  | _ => 0

theorem open_recs {ao : Option Addr} {len cap : Nat} (h : DataW.Trod enc Ybad.prog W 0 (fun _ => true) true 23 (.slice ao len cap) d ps) :
    ∃ (rs : List (Nat × Int)) (b off : Nat), rs.length = len ∧ (0 < rs.length → ao = some ⟨b, off, none⟩) ∧ ∀ j r, rs[j]? = some r → W.cell? ⟨b, off + j * 2, none⟩ = some (.int .u16 (r.1 : Int)) ∧ W.cell? ⟨b, off + j * 2 + 1, none⟩ = some (.int .i32 r.2) ∧ r.1 < 65536 ∧ -2147483648 ≤ r.2 ∧ r.2 ≤ 2147483647 := by
  obtain ⟨fuel, hf⟩ := h
  rcases Go.Deep.open_slice_pairs Ybad.underlying23 Ybad.underlying66 (by kernel_rfl) rfl rfl (by kernel_rfl) (by kernel_rfl) hf with ⟨hcs, _⟩ | ⟨x, l, c, m, n, V0, V1, D0, D1, P0, P1, hcs, _, hl, hm, hmm, _, hx⟩
  · simp [Value.cells] at hcs
    obtain ⟨rfl, rfl, rfl⟩ := hcs
    exact ⟨[], 0, 0, rfl, fun h => by simp at h, fun j s h => by simp at h⟩
  · simp [Value.cells] at hcs
    obtain ⟨rfl, rfl, rfl⟩ := hcs
    have hm' : m = cap := by simpa using hmm
    obtain ⟨b, off, spot⟩ := x
    have hspot : 0 < len → spot = none := fun h0 => by simpa [Addr.add] using World.cell?_spot (hx 0 (by omega)).1
    refine ⟨(List.range len).map (fun i => (natOf (V0 i), intVal (V1 i))), b, off, by simp, fun h0 => ?_, fun j r hj => ?_⟩
    · rw [hspot (by simpa using h0)]
    · have hjl : j < len := by
        have := (List.getElem?_eq_some_iff.1 hj).1
        simpa using this
      obtain rfl := hspot (by omega)
      simp [hjl] at hj
      subst hj
      obtain ⟨q1, q2, q3, q4⟩ := hx j (by omega)
      obtain ⟨z0, e0, _, w0⟩ := DataW.trod_int Ybad.underlying64 q3
      obtain ⟨z1, e1, _, w1⟩ := DataW.trod_int Ybad.underlying21 q4
      simp at e0 e1
      rw [e0, Addr.add_lit] at q1
      rw [e1, Addr.add_lit] at q2
      have b0 := bounds_u16 w0
      have b1 := bounds_i32 w1
      rw [e0, e1]
      refine ⟨?_, ?_, ?_, ?_, ?_⟩
      · rw [q1]
        simp [natOf]
        omega
      · rw [Nat.add_assoc]
        rw [q2]
        simp [intVal]
      · simp [natOf]
        omega
      · simp [intVal]
        omega
      · simp [intVal]
        omega
end
end Go.Proofs.YbulkdeicDoor
