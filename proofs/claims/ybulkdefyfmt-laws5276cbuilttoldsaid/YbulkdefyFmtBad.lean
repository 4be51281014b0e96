/-
  OWN WORK. The facts on fmt.Sprintf's stop that this road needs (spelled after the kit's LabelFmt), and badField: a new Rejection, whatever fmt's text.
-/
import Derived.Test.YbulkdefyFmtWord
import Derived.Stop.CallBack
import Derived.Stop.IfaceNil
import GoSem.ClaimData
namespace Go.Proofs.YbulkdefyFmt
open Go.RowKit Go.Extern.Stop Go.Stop Go.Extern

theorem call26 (args : Array Value) (w : World) : (callFunc 26 args).run Ybaf.prog w = ((FmtStop.sprintf #[9, 116] #[9] args).run Ybaf.prog w).andThen fun v w' => .ok (.value v) w' :=
  run_callFunc_extern Ybaf.func26 (by kernel_rfl) (by kernel_rfl) (by kernel_rfl) (by kernel_rfl) args w
theorem fguard (name : String) (w : World) : (FmtStop.guard name).run Ybaf.prog w = .ok () w := by kernel_rfl
theorem fmt2 : FmtStop.printed? ⟨#[102, 105, 101, 108, 100, 32, 37, 100, 32, 114, 101, 97, 100, 115, 32, 37, 113, 58, 32, 37, 115]⟩ 3 = some [(0, 100, false), (1, 113, false), (2, 115, false)] := by kernel_rfl
theorem fmt2r (w : World) : (FmtDoors.printed ⟨#[102, 105, 101, 108, 100, 32, 37, 100, 32, 114, 101, 97, 100, 115, 32, 37, 113, 58, 32, 37, 115]⟩ 3).run Ybaf.prog w = .ok [(0, 100, false), (1, 113, false), (2, 115, false)] w := by kernel_rfl
def shape3 : List UInt8 := [5, 3, 0, 0, 0, 0, 0, 0, 0, 105, 110, 116]
theorem op3_100 (name : String) (x : Int) (w : World) : (FmtStop.operand name false 100 false (.iface 3 (.int .i64 x))).run Ybaf.prog w = .ok (shape3, Go.Extern.Stop.digits 8 (x % 2 ^ 64).toNat) w := by kernel_rfl
def shape9 : List UInt8 := [12, 6, 0, 0, 0, 0, 0, 0, 0, 115, 116, 114, 105, 110, 103]
theorem op9_115 (name : String) (x : ByteArray) (w : World) : (FmtStop.operand name false 115 false (.iface 9 (.string x))).run Ybaf.prog w = .ok (shape9, FmtStop.pack x.data.toList) w := by kernel_rfl
theorem op9_113 (name : String) (x : ByteArray) (w : World) : (FmtStop.operand name false 113 false (.iface 9 (.string x))).run Ybaf.prog w = .ok (shape9, FmtStop.pack x.data.toList) w := by kernel_rfl

attribute [local go_sem] call26 fguard fmt2 fmt2r op3_100 op9_115 op9_113

theorem heap_two (w : World) (a b : Obj) : ((w.alloc a).alloc b).drew.heap[w.heap.size + 1]? = some b := by
  show ((w.heap.push a).push b)[w.heap.size + 1]? = some b
  rw [Array.getElem?_push, if_pos (by simp)]

/-- The rule's word. -/
def synB : ByteArray := ⟨#[115, 121, 110, 116, 97, 120]⟩

set_option maxRecDepth 100000 in
set_option maxHeartbeats 400000 in
theorem badField_any (F : Interp) (n : Int) (got want : ByteArray) (w : World) (hF : F.answers w.tape) :
    Calls Ybaf.prog 19 #[.int .i64 n, .string got, .string want] w fun e w' => ∃ t : ByteArray, e = .returned (.pointer (some ⟨w.heap.size + 1, 0, none⟩)) ∧
      w'.heap[w.heap.size + 1]? = some (.cells #[.string synB, .string t] 55 (0, 0)) ∧ Below w.heap.size w w' := by
  have hF' := answers_open hF
  go_enter Ybaf.func19, Ybaf.ntmps19
  go_wp2
  go_ret
  generalize F "fmt.Sprintf" _ 0 = T
  refine ⟨FmtStop.textOf T, rfl, ?_, (((Below.refl _ w).alloc (Nat.le_refl _) _).alloc (by simp) _).drew⟩
  exact heap_two w _ _
end Go.Proofs.YbulkdefyFmt
