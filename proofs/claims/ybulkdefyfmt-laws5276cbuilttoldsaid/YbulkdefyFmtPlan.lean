/-
  OWN WORK. The law's FlightPlan literal: its three operations by laws of their own (the plain walk of the store of 25 cells is too great for the kernel).
-/
import Derived.Test.YbulkdefyFmtRead
import Derived.Laws.Tables
namespace Go.Proofs.YbulkdefyFmt
open Go.RowKit

/-- The plan before the reading. -/
def plan0 : Array Value := #[.string ⟨#[]⟩, .string ⟨#[75, 76, 77, 49]⟩, .string ⟨#[]⟩, .string ⟨#[]⟩, .string ⟨#[]⟩, .int .i64 0, .string ⟨#[]⟩, .string ⟨#[]⟩, .string ⟨#[]⟩, .slice none 0 0, .slice none 0 0, .string ⟨#[]⟩, .string ⟨#[]⟩, .string ⟨#[]⟩, .string ⟨#[]⟩, .string ⟨#[]⟩, .slice none 0 0, .string ⟨#[79, 76, 68]⟩, .string ⟨#[84]⟩, .slice none 0 0, .string ⟨#[]⟩, .slice none 0 0, .string ⟨#[]⟩, .slice none 0 0, .slice none 0 0]
def zero49 : Array Value := #[.string ⟨#[]⟩, .string ⟨#[]⟩, .string ⟨#[]⟩, .string ⟨#[]⟩, .string ⟨#[]⟩, .int .i64 0, .string ⟨#[]⟩, .string ⟨#[]⟩, .string ⟨#[]⟩, .slice none 0 0, .slice none 0 0, .string ⟨#[]⟩, .string ⟨#[]⟩, .string ⟨#[]⟩, .string ⟨#[]⟩, .string ⟨#[]⟩, .slice none 0 0, .string ⟨#[]⟩, .string ⟨#[]⟩, .slice none 0 0, .string ⟨#[]⟩, .slice none 0 0, .string ⟨#[]⟩, .slice none 0 0, .slice none 0 0]

theorem built49 : Ybaf.prog.built 49 [(1, .string ⟨#[75, 76, 77, 49]⟩), (17, .string ⟨#[79, 76, 68]⟩), (18, .string ⟨#[84]⟩)] = some plan0 := by kernel_rfl

theorem run_build49 (w : World) : (Instr.build 49 #[(1, .string ⟨#[75, 76, 77, 49]⟩), (17, .string ⟨#[79, 76, 68]⟩), (18, .string ⟨#[84]⟩)]).run Ybaf.prog w = .ok (.agg plan0) w :=
  run_build w 49 _ plan0 built49

theorem wpList_build49 {ops : Array Oper} {rest : List Oper} {o : Oper} {a : Act} {w : World} {Q : Exit → Act → World → Prop} (hg : o.guard = none)
    (ho : o.op = .build 49 #[(1, .const (.string ⟨#[75, 76, 77, 49]⟩)), (17, .const (.string ⟨#[79, 76, 68]⟩)), (18, .const (.string ⟨#[84]⟩))])
    (h : wpList Ybaf.prog ops Q rest (a.put o.dst (.agg plan0)) w) : wpList Ybaf.prog ops Q (o :: rest) a w := by
  refine wpList_plain hg fun K hK => ?_
  have hrun : (execOp a.eval o).run Ybaf.prog w = .ok (.value (.agg plan0)) w := by
    simp [execOp, ho, Act.eval, run_build49]
  unfold Oper.wp
  rw [hrun, Oper.upon_value]
  exact hK _ _ h

theorem run_alloc49 (w : World) : (Instr.alloc 49 true (.tuple #[])).run Ybaf.prog w = .ok (.pointer (some ⟨w.heap.size, 0, none⟩)) (w.alloc (.cells zero49 49)) := by kernel_rfl

theorem wpList_alloc49 {ops : Array Oper} {rest : List Oper} {o : Oper} {a : Act} {w : World} {Q : Exit → Act → World → Prop} (hg : o.guard = none) (ho : o.op = .alloc 49)
    (h : wpList Ybaf.prog ops Q rest (a.put o.dst (.pointer (some ⟨w.heap.size, 0, none⟩))) (w.alloc (.cells zero49 49))) : wpList Ybaf.prog ops Q (o :: rest) a w := by
  refine wpList_plain hg fun K hK => ?_
  have hrun : (execOp a.eval o).run Ybaf.prog w = .ok (.value (.pointer (some ⟨w.heap.size, 0, none⟩))) (w.alloc (.cells zero49 49)) := by
    simp [execOp, ho, run_alloc49]
  unfold Oper.wp
  rw [hrun, Oper.upon_value]
  exact hK _ _ h

theorem alloc_setRow (w : World) (a b : Array Value) (t : TypeId) : (w.alloc (.cells a t)).setRow w.heap.size b = w.alloc (.cells b t) := by
  unfold World.setRow World.alloc
  simp only [World.mk.injEq, and_true]
  apply Array.ext
  · simp
  · intro i h1 h2
    rw [Array.getElem_modify]
    by_cases hi : w.heap.size = i
    · subst hi
      simp
    · rw [if_neg hi]
      have hi' : i < w.heap.size := by simp at h2; omega
      rw [Array.getElem_push_lt hi', Array.getElem_push_lt hi']

theorem wpList_store49 {ops : Array Oper} {rest : List Oper} {o : Oper} {a : Act} {w0 : World} {Q : Exit → Act → World → Prop} (hg : o.guard = none) (x y : Operand) (ho : o.op = .store 49 x y)
    (hx : a.eval x = .pointer (some ⟨w0.heap.size, 0, none⟩)) (hy : a.eval y = .agg plan0)
    (h : wpList Ybaf.prog ops Q rest (a.put o.dst undef) (w0.alloc (.cells plan0 49))) : wpList Ybaf.prog ops Q (o :: rest) a (w0.alloc (.cells zero49 49)) := by
  refine wpList_store_row hg 49 x y ho w0.heap.size plan0 hx hy 49 zero49 (by show (w0.heap.push _)[w0.heap.size]? = _; simp) (by kernel_rfl) rfl (by kernel_rfl) ?_
  rw [alloc_setRow]
  exact h
end Go.Proofs.YbulkdefyFmt
