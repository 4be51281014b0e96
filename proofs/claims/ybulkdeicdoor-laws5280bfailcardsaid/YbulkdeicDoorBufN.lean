/-
  OWN WORK. bufio.NewWriter over the test's own writer.
-/
import Derived.Test.YbulkdeicDoorBufW
import Derived.Laws.MakeOwn
namespace Go.Proofs.YbulkdeicDoor
open Go.RowKit

/-- 'make([]T, l, c)', its cells unseen. -/
theorem wpList_make_any {P : Program} (w : World) {ops : Array Oper} {rest : List Oper} {o : Oper} {a : Act} {Q : Exit → Act → World → Prop}
    (hg : o.guard = none) (x y : Operand) (t : TypeId) (hop : o.op = Op.makeSlice t x y)
    (e : TypeId) (i : TypeInfo) (z : Value) (size : Nat) (h1 : P.underlying t = some (.slice e)) (h2 : P.info? e = some i) (h3 : i.zero = some z) (h4 : i.size = size)
    (kl kc : IntKind) (L C : Int) (l c : Nat) (hl : a.eval x = .int kl L) (hc : a.eval y = .int kc C) (hL : L = (l : Int)) (hC : C = (c : Int)) (hlc : l ≤ c) (b2 : (i.bytes : Int) * (c : Int) ≤ 281474976710656) (b3 : (c : Int) ≤ 9223372036854775807)
    (hK : ∀ cur : Array Value, cur.size = c * size → wpList P ops Q rest (a.put o.dst (.slice (some ⟨w.heap.size, 0, none⟩) l c)) (w.alloc (.cells cur e))) :
    wpList P ops Q (o :: rest) a w := by
  refine wpList_plain hg fun K hK' => ?_
  subst hL
  subst hC
  subst h4
  have hrun := run_make (P := P) w t e i z h1 h2 h3 kl kc (l : Int) (c : Int) (by omega) (by omega) b2 b3
  simp only [Int.toNat_natCast] at hrun
  unfold Oper.wp
  simp [execOp, hop, hl, hc, hrun, Result.andThen]
  exact hK' _ _ (hK _ (size_madeCells _ _))

theorem assert71 (a : Addr) (w : World) : (Instr.typeAssert (.iface 29 (.pointer (some a))) 70 71 true).run Ybad.prog w = .ok (.tuple #[.pointer none, .bool false]) w := by kernel_rfl

set_option maxHeartbeats 2000000 in
set_option maxRecDepth 100000 in
theorem newWriterSize {w : World} {bz be : Nat} {f : Bool} (hz : w.heap[bz]? = some (.cells #[.slice none 0 0, .int .i64 0, if f then erv be else .nilIface] 33 (0, 0))) :
    Calls Ybad.prog 18 #[.iface 29 (.pointer (some ⟨bz, 0, none⟩)), .int .i64 4096] w fun e w' => e = .returned (.pointer (some ⟨w.heap.size + 1, 0, none⟩)) ∧ Wr w' (w.heap.size + 1) w.heap.size bz be f false [] [] 0 (.slice none 0 0) ∧ Ch (fun _ => False) w w' := by
  obtain ⟨i0, hi, hz0, hz1, hz2⟩ := info_parts Ybad.info5
  have FIN : Hid (∀ cur : Array Value, cur.size = 4096 → Wr ((w.alloc (.cells cur 5)).alloc (.cells #[.nilIface, .slice (some ⟨w.heap.size, 0, none⟩) 4096 4096, .int .i64 0, .iface 29 (.pointer (some ⟨bz, 0, none⟩))] 84)) (w.heap.size + 1) w.heap.size bz be f false [] [] 0 (.slice none 0 0) ∧
      Ch (fun _ => False) w ((w.alloc (.cells cur 5)).alloc (.cells #[.nilIface, .slice (some ⟨w.heap.size, 0, none⟩) 4096 4096, .int .i64 0, .iface 29 (.pointer (some ⟨bz, 0, none⟩))] 84))) := by
    intro cur hcur
    have hb : bz < w.heap.size := (Array.getElem?_eq_some_iff.1 hz).1
    have e1 : (w.alloc (.cells cur 5)).heap.size = w.heap.size + 1 := by simp
    refine ⟨⟨?_, ⟨cur, ?_, hcur, by simp [Lib.byteCells]⟩, by simp, ?_, by simpa [Lib.byteCells] using Own.nil _ 5 1, by simp [Value.ownBlock]⟩, ((Ch.refl _ _).alloc _).alloc _⟩
    · rw [← e1]
      exact heap_alloc_new _ _
    · rw [Below.heap_alloc _ _ _ (by rw [e1]; omega)]
      exact heap_alloc_new _ _
    · rw [Below.heap_alloc _ _ _ (by rw [e1]; omega), Below.heap_alloc _ _ _ hb]
      exact hz
  clear hz
  have ta := assert71
  go_enter Ybad.func18, Ybad.ntmps18
  go_wp2_with (at_make; refine wpList_make_any _ rfl _ _ 26 rfl 5 i0 (.int .u8 0) 1 Ybad.underlying26 hi hz0 hz1 .i64 .i64 _ _ 4096 4096 rfl rfl rfl rfl (Nat.le_refl _) ?b2 ?b3 ?_)
  case b2 => rw [hz2]; decide
  case b3 => decide
  intro cur hcur
  have HC := Lib.hid hcur
  clear hcur
  go_wp2
  go_ret
  exact ⟨rfl, FIN.out cur (by simpa using HC.out)⟩

set_option maxRecDepth 100000 in
theorem newWriter {w : World} {bz be : Nat} {f : Bool} (hz : w.heap[bz]? = some (.cells #[.slice none 0 0, .int .i64 0, if f then erv be else .nilIface] 33 (0, 0))) :
    Calls Ybad.prog 12 #[.iface 29 (.pointer (some ⟨bz, 0, none⟩))] w fun e w' => e = .returned (.pointer (some ⟨w.heap.size + 1, 0, none⟩)) ∧ Wr w' (w.heap.size + 1) w.heap.size bz be f false [] [] 0 (.slice none 0 0) ∧ Ch (fun _ => False) w w' := by
  have A := Lib.hid (newWriterSize hz)
  clear hz
  go_enter Ybad.func12, Ybad.ntmps12
  go_wp2_with (go_at_call 18; refine A.out.mono ?_; rintro e w1 ⟨rfl, h1⟩)
  go_ret
  exact ⟨rfl, h1⟩
end Go.Proofs.YbulkdeicDoor
